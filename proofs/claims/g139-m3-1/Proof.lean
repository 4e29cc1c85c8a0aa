import JvmDerived
import JvmDerived.Pilot.@@N@@Statement
import JvmDerived.Pilot.@@N@@Code
set_option linter.unusedVariables false
set_option linter.unusedSimpArgs false
namespace Jvm.Pilot.@@N@@
open Jvm Jvm.ClassFile Sem Op Lib Jvm.Free Jvm.Stand Jvm.LawKit Jvm.RoadKit Bundle Jvm.Pilot.@@N@@.Jvm.D
section OwnHead
variable {p : Program} {l : Launch} {e : Env} {R : Room} {s : State} {m : MethodId} {args : Array Value} {below : List Frame} {meth : Method} {c : Code} {T : State} {locs : List Loc} {cells slots : Nat} {Z : State} {a0 : Array Value} {h : Heap} {Q : Option Value → Heap → List Loc → Prop} {ce sl : Nat} {pc pc' : Nat} {Ls : Array Slot} {st : List Value}
def own_G (p : Program) (e : Env) (below : List Frame) (s : State) (Q : Option Value → Heap → List Loc → Prop) (ce sl : Nat) (S : State) : Prop := ∃ s₂ o, Steps p.tables e below S s₂ ∧ s₂.status = .running ∧ Ended s₂ below o ∧ ∃ v L, o = .returned v ∧ Q v s₂.heap L ∧ FrameEnd s o s₂ L ce sl
theorem own_fw {S S' : State} (h : ∀ t, Steps p.tables e below S' t → Steps p.tables e below S t) (g : own_G p e below s Q ce sl S') : own_G p e below s Q ce sl S := by
  obtain ⟨s₂, o, h1, r⟩ := g; exact ⟨s₂, o, h _ h1, r⟩
theorem own_via {S S' : State} (h : own_G p e below s Q ce sl S' → own_G p e below s Q ce sl S) (g : own_G p e below s Q ce sl S') : own_G p e below s Q ce sl S := h g
theorem own_cast {S S' : State} (h : S = S') (g : own_G p e below s Q ce sl S') : own_G p e below s Q ce sl S := h ▸ g
abbrev own_M (l : Launch) (Z : State) (y : MethodName) (bytes : ByteArray) (maxL : Nat) (ret : Option FieldType) (ws : List Jvm.Cond) (rm : Room) (as' : Array Value) (h0 : Heap) (Q : Option Value → Heap → List Loc → Prop) (ce sl : Nat) : Prop := MetFree l y (head1 (Jvm.Cond.code y bytes maxL ret :: ws) rm) (fun a U => a = as' ∧ Z.Warmed39 U.vm ∧ U.heap = h0) (fun _ _ _ _ _ => True) (fun _ U o U' => ∃ v L, o = .returned v ∧ Q v U'.heap L ∧ FrameEnd U o U' L ce sl)
theorem own_body {y : MethodName} {bytes : ByteArray} {maxL : Nat} {ret : Option FieldType} {ws : List Jvm.Cond} {rm : Room} {as' : Array Value} {h0 : Heap} (hp : plainFor y = true)
    (body : ∀ (p : Program) (e : Env) (s : State) (m : MethodId) (below : List Frame) (meth : Method) (c : Code) (s₁ : State), p.tables.exec = Jvm.exec → c.code = bytes → c.maxLocals = maxL → s.vm.findClass y.cls = some m.cls → meth.name = y.name → meth.sig.returnType = ret → meth.locks = false → Z.Warmed39 s.vm → Stand p l e rm s m as' below meth c s₁ [] 0 0 → s₁.heap = h0 → own_G p e below s Q ce sl (s₁.setTop (entryFrame m as' maxL))) : own_M l Z y bytes maxL ret ws rm as' h0 Q ce sl := by
  refine MetFree.of_bodySF hp hisR ?_
  intro p e s m args below meth c s₁ Bd hml hP hK
  obtain ⟨rfl, hZ, hh⟩ := hP
  exact body p e s m below meth c s₁ Bd.exec Bd.bytes hml (findClass_of_methodNamed Bd.named) (name_of_methodNamed Bd.named Bd.method).1 Bd.returns Bd.notSynchronized hZ (Stand.of_body Bd) (by rw [← hh, Bd.state]; rfl)
theorem own_ret (X : Stand p l e R s m args below meth c T locs cells slots) (hx : p.tables.exec = Jvm.exec) {w : Value} {t : FieldType} {i : Instr} (hret : meth.sig.returnType = some t) (hlk : meth.locks = false) (hn : narrow t w = w)
    (hi : (i = .ireturn ∧ (t = .int ∨ t = .boolean ∨ t = .byte ∨ t = .char ∨ t = .short) ∧ ∃ z, w = .int z) ∨ (i = .lreturn ∧ t = .long ∧ ∃ z, w = .long z) ∨ (i = .dreturn ∧ t = .double ∧ ∃ z, w = .double z) ∨ (i = .freturn ∧ t = .float ∧ ∃ z, w = .float z) ∨ (i = .areturn ∧ t.isReference = true ∧ w.isRef = true))
    (hd : decode c.code pc = .ok (i, 1)) (hQ : Q (some w) T.heap locs) (hce : cells ≤ ce) (hsl : slots ≤ sl) : own_G p e below s Q ce sl (T.setTop (mkF m pc Ls (w :: st))) := by
  obtain ⟨fs, hr, hrun, hended, hW, hsame⟩ := X.leave (v := some w) (fun h => by rw [hret] at h; cases h) hlk
  exact ⟨_, _, retOut X hx hret hn hi hd hr, hrun, hended, _, _, rfl, hQ, ⟨_, rfl⟩, hW, hsame.mono hce hsl⟩
theorem own_retI (X : Stand p l e R s m args below meth c T locs cells slots) (hx : p.tables.exec = Jvm.exec) {z : Int32} (hret : meth.sig.returnType = some .int) (hlk : meth.locks = false) (hd : decode c.code pc = .ok (.ireturn, 1)) (hQ : Q (some (.int z)) T.heap locs) (hce : cells ≤ ce) (hsl : slots ≤ sl) : own_G p e below s Q ce sl (T.setTop (mkF m pc Ls (.int z :: st))) := own_ret X hx hret hlk rfl (Or.inl ⟨rfl, Or.inl rfl, z, rfl⟩) hd hQ hce hsl
theorem own_retZ (X : Stand p l e R s m args below meth c T locs cells slots) (hx : p.tables.exec = Jvm.exec) {z : Int32} (hret : meth.sig.returnType = some .boolean) (hlk : meth.locks = false) (hz : z = 0 ∨ z = 1) (hd : decode c.code pc = .ok (.ireturn, 1)) (hQ : Q (some (.int z)) T.heap locs) (hce : cells ≤ ce) (hsl : slots ≤ sl) : own_G p e below s Q ce sl (T.setTop (mkF m pc Ls (.int z :: st))) := own_ret X hx hret hlk (by rcases hz with rfl | rfl <;> rfl) (Or.inl ⟨rfl, Or.inr (Or.inl rfl), z, rfl⟩) hd hQ hce hsl
theorem own_retB (X : Stand p l e R s m args below meth c T locs cells slots) (hx : p.tables.exec = Jvm.exec) {z : Int32} (hret : meth.sig.returnType = some .byte) (hlk : meth.locks = false) (hz : narrow .byte (.int z) = .int z) (hd : decode c.code pc = .ok (.ireturn, 1)) (hQ : Q (some (.int z)) T.heap locs) (hce : cells ≤ ce) (hsl : slots ≤ sl) : own_G p e below s Q ce sl (T.setTop (mkF m pc Ls (.int z :: st))) := own_ret X hx hret hlk hz (Or.inl ⟨rfl, Or.inr (Or.inr (Or.inl rfl)), z, rfl⟩) hd hQ hce hsl
theorem own_retL (X : Stand p l e R s m args below meth c T locs cells slots) (hx : p.tables.exec = Jvm.exec) {z : Int64} (hret : meth.sig.returnType = some .long) (hlk : meth.locks = false) (hd : decode c.code pc = .ok (.lreturn, 1)) (hQ : Q (some (.long z)) T.heap locs) (hce : cells ≤ ce) (hsl : slots ≤ sl) : own_G p e below s Q ce sl (T.setTop (mkF m pc Ls (.long z :: st))) := own_ret X hx hret hlk rfl (Or.inr (Or.inl ⟨rfl, rfl, z, rfl⟩)) hd hQ hce hsl
theorem own_retA (X : Stand p l e R s m args below meth c T locs cells slots) (hx : p.tables.exec = Jvm.exec) {v : Value} {t : FieldType} (hret : meth.sig.returnType = some t) (hlk : meth.locks = false) (ht : t.isReference = true) (hn : narrow t v = v) (hv : v.isRef = true) (hd : decode c.code pc = .ok (.areturn, 1)) (hQ : Q (some v) T.heap locs) (hce : cells ≤ ce) (hsl : slots ≤ sl) : own_G p e below s Q ce sl (T.setTop (mkF m pc Ls (v :: st))) := own_ret X hx hret hlk hn (Or.inr (Or.inr (Or.inr (Or.inr ⟨rfl, ht, hv⟩)))) hd hQ hce hsl
theorem own_retV (X : Stand p l e R s m args below meth c T locs cells slots) (hx : p.tables.exec = Jvm.exec) (hret : meth.sig.returnType = none) (hlk : meth.locks = false) (hd : decode c.code pc = .ok (.return_, 1)) (hQ : Q none T.heap locs) (hce : cells ≤ ce) (hsl : slots ≤ sl) : own_G p e below s Q ce sl (T.setTop (mkF m pc Ls [])) := by
  obtain ⟨fs, hr, hrun, hended, hW, hsame⟩ := X.leave (v := none) (fun _ => rfl) hlk
  exact ⟨_, _, X.returnOut hx hret hd hr, hrun, hended, _, _, rfl, hQ, ⟨_, rfl⟩, hW, hsame.mono hce hsl⟩
theorem own_iloadN {i : Fin 4} {v : Int32} (X : Stand p l e R s m args below meth c T locs cells slots) (hx : p.tables.exec = Jvm.exec) (hd : decode c.code pc = .ok (.iload_n i, 1)) (hl : Ls[i.val]? = some (.val (.int v))) (hp : pc + 1 = pc') (k : own_G p e below s Q ce sl (T.setTop (mkF m pc' Ls (.int v :: st)))) : own_G p e below s Q ce sl (T.setTop (mkF m pc Ls st)) := by
  subst hp; exact own_fw (fun t q => XS.iloadN X.here hx rfl hd hl q) k
theorem own_iload {i : Nat} {v : Int32} (X : Stand p l e R s m args below meth c T locs cells slots) (hx : p.tables.exec = Jvm.exec) (hd : decode c.code pc = .ok (.iload i, 2)) (hl : Ls[i]? = some (.val (.int v))) (hp : pc + 2 = pc') (k : own_G p e below s Q ce sl (T.setTop (mkF m pc' Ls (.int v :: st)))) : own_G p e below s Q ce sl (T.setTop (mkF m pc Ls st)) := by
  subst hp; exact own_fw (fun t q => XS.iload X.here hx rfl hd hl q) k
theorem own_lloadN {i : Fin 4} {v : Int64} (X : Stand p l e R s m args below meth c T locs cells slots) (hx : p.tables.exec = Jvm.exec) (hd : decode c.code pc = .ok (.lload_n i, 1)) (hl : Ls[i.val]? = some (.val (.long v))) (hp : pc + 1 = pc') (k : own_G p e below s Q ce sl (T.setTop (mkF m pc' Ls (.long v :: st)))) : own_G p e below s Q ce sl (T.setTop (mkF m pc Ls st)) := by
  subst hp; exact own_fw (fun t q => XS.lloadN X.here hx rfl hd hl q) k
theorem own_lload {i : Nat} {v : Int64} (X : Stand p l e R s m args below meth c T locs cells slots) (hx : p.tables.exec = Jvm.exec) (hd : decode c.code pc = .ok (.lload i, 2)) (hl : Ls[i]? = some (.val (.long v))) (hp : pc + 2 = pc') (k : own_G p e below s Q ce sl (T.setTop (mkF m pc' Ls (.long v :: st)))) : own_G p e below s Q ce sl (T.setTop (mkF m pc Ls st)) := by
  subst hp; exact own_fw (fun t q => XS.lload X.here hx rfl hd hl q) k
theorem own_aloadN {i : Fin 4} {v : Value} (X : Stand p l e R s m args below meth c T locs cells slots) (hx : p.tables.exec = Jvm.exec) (hd : decode c.code pc = .ok (.aload_n i, 1)) (hl : Ls[i.val]? = some (.val v)) (hv : v.isRef = true) (hp : pc + 1 = pc') (k : own_G p e below s Q ce sl (T.setTop (mkF m pc' Ls (v :: st)))) : own_G p e below s Q ce sl (T.setTop (mkF m pc Ls st)) := by
  subst hp; exact own_fw (fun t q => XS.aloadN X.here hx rfl hd hl hv q) k
theorem own_aload {i : Nat} {v : Value} (X : Stand p l e R s m args below meth c T locs cells slots) (hx : p.tables.exec = Jvm.exec) (hd : decode c.code pc = .ok (.aload i, 2)) (hl : Ls[i]? = some (.val v)) (hv : v.isRef = true) (hp : pc + 2 = pc') (k : own_G p e below s Q ce sl (T.setTop (mkF m pc' Ls (v :: st)))) : own_G p e below s Q ce sl (T.setTop (mkF m pc Ls st)) := by
  subst hp; exact own_fw (fun t q => XS.aload X.here hx rfl hd hl hv q) k
theorem own_istoreN {i : Fin 4} {v : Int32} (X : Stand p l e R s m args below meth c T locs cells slots) (hx : p.tables.exec = Jvm.exec) (hd : decode c.code pc = .ok (.istore_n i, 1)) {l' : Array Slot} (hl : storeLocals Ls i.val (.int v) = some l') (hp : pc + 1 = pc') (k : own_G p e below s Q ce sl (T.setTop (mkF m pc' l' st))) : own_G p e below s Q ce sl (T.setTop (mkF m pc Ls (.int v :: st))) := by
  subst hp; exact own_fw (fun t q => XS.istoreN X.here hx rfl hd rfl hl q) k
theorem own_istore {i : Nat} {v : Int32} (X : Stand p l e R s m args below meth c T locs cells slots) (hx : p.tables.exec = Jvm.exec) (hd : decode c.code pc = .ok (.istore i, 2)) {l' : Array Slot} (hl : storeLocals Ls i (.int v) = some l') (hp : pc + 2 = pc') (k : own_G p e below s Q ce sl (T.setTop (mkF m pc' l' st))) : own_G p e below s Q ce sl (T.setTop (mkF m pc Ls (.int v :: st))) := by
  subst hp; exact own_fw (fun t q => XS.istore X.here hx rfl hd rfl hl q) k
theorem own_lstoreN {i : Fin 4} {v : Int64} (X : Stand p l e R s m args below meth c T locs cells slots) (hx : p.tables.exec = Jvm.exec) (hd : decode c.code pc = .ok (.lstore_n i, 1)) {l' : Array Slot} (hl : storeLocals Ls i.val (.long v) = some l') (hp : pc + 1 = pc') (k : own_G p e below s Q ce sl (T.setTop (mkF m pc' l' st))) : own_G p e below s Q ce sl (T.setTop (mkF m pc Ls (.long v :: st))) := by
  subst hp; exact own_fw (fun t q => XS.lstoreN X.here hx rfl hd rfl hl q) k
theorem own_lstore {i : Nat} {v : Int64} (X : Stand p l e R s m args below meth c T locs cells slots) (hx : p.tables.exec = Jvm.exec) (hd : decode c.code pc = .ok (.lstore i, 2)) {l' : Array Slot} (hl : storeLocals Ls i (.long v) = some l') (hp : pc + 2 = pc') (k : own_G p e below s Q ce sl (T.setTop (mkF m pc' l' st))) : own_G p e below s Q ce sl (T.setTop (mkF m pc Ls (.long v :: st))) := by
  subst hp; exact own_fw (fun t q => XS.lstore X.here hx rfl hd rfl hl q) k
theorem own_astoreN {i : Fin 4} {v : Value} (X : Stand p l e R s m args below meth c T locs cells slots) (hx : p.tables.exec = Jvm.exec) (hd : decode c.code pc = .ok (.astore_n i, 1)) (hv : v.isRef = true) {l' : Array Slot} (hl : storeLocals Ls i.val v = some l') (hp : pc + 1 = pc') (k : own_G p e below s Q ce sl (T.setTop (mkF m pc' l' st))) : own_G p e below s Q ce sl (T.setTop (mkF m pc Ls (v :: st))) := by
  subst hp; exact own_fw (fun t q => XS.astoreN X.here hx rfl hd rfl hv hl q) k
theorem own_astore {i : Nat} {v : Value} (X : Stand p l e R s m args below meth c T locs cells slots) (hx : p.tables.exec = Jvm.exec) (hd : decode c.code pc = .ok (.astore i, 2)) (hv : v.isRef = true) {l' : Array Slot} (hl : storeLocals Ls i v = some l') (hp : pc + 2 = pc') (k : own_G p e below s Q ce sl (T.setTop (mkF m pc' l' st))) : own_G p e below s Q ce sl (T.setTop (mkF m pc Ls (v :: st))) := by
  subst hp; exact own_fw (fun t q => XS.astore X.here hx rfl hd rfl hv hl q) k
theorem own_iconst {i : Int} {z : Int32} (X : Stand p l e R s m args below meth c T locs cells slots) (hx : p.tables.exec = Jvm.exec) (hd : decode c.code pc = .ok (.iconst i, 1)) (hz : Int32.ofInt i = z) (hp : pc + 1 = pc') (k : own_G p e below s Q ce sl (T.setTop (mkF m pc' Ls (.int z :: st)))) : own_G p e below s Q ce sl (T.setTop (mkF m pc Ls st)) := by
  subst hp hz; exact own_fw (fun t q => XS.iconst X.here hx rfl hd q) k
theorem own_bipush {i : Int} {z : Int32} (X : Stand p l e R s m args below meth c T locs cells slots) (hx : p.tables.exec = Jvm.exec) (hd : decode c.code pc = .ok (.bipush i, 2)) (hz : (Int8.ofInt i).toInt32 = z) (hp : pc + 2 = pc') (k : own_G p e below s Q ce sl (T.setTop (mkF m pc' Ls (.int z :: st)))) : own_G p e below s Q ce sl (T.setTop (mkF m pc Ls st)) := by
  subst hp hz; exact own_fw (fun t q => XS.bipush X.here hx rfl hd q) k
theorem own_sipush {i : Int} {z : Int32} (X : Stand p l e R s m args below meth c T locs cells slots) (hx : p.tables.exec = Jvm.exec) (hd : decode c.code pc = .ok (.sipush i, 3)) (hz : (Int16.ofInt i).toInt32 = z) (hp : pc + 3 = pc') (k : own_G p e below s Q ce sl (T.setTop (mkF m pc' Ls (.int z :: st)))) : own_G p e below s Q ce sl (T.setTop (mkF m pc Ls st)) := by
  subst hp hz; exact own_fw (fun t q => XS.sipush X.here hx rfl hd q) k
theorem own_lconst {i : Fin 2} {z : Int64} (X : Stand p l e R s m args below meth c T locs cells slots) (hx : p.tables.exec = Jvm.exec) (hd : decode c.code pc = .ok (.lconst i, 1)) (hz : Int64.ofNat i = z) (hp : pc + 1 = pc') (k : own_G p e below s Q ce sl (T.setTop (mkF m pc' Ls (.long z :: st)))) : own_G p e below s Q ce sl (T.setTop (mkF m pc Ls st)) := by
  subst hp hz; exact own_fw (fun t q => XS.lconst X.here hx rfl hd q) k
theorem own_aconstNull (X : Stand p l e R s m args below meth c T locs cells slots) (hx : p.tables.exec = Jvm.exec) (hd : decode c.code pc = .ok (.aconst_null, 1)) (hp : pc + 1 = pc') (k : own_G p e below s Q ce sl (T.setTop (mkF m pc' Ls (.null :: st)))) : own_G p e below s Q ce sl (T.setTop (mkF m pc Ls st)) := by
  subst hp; exact own_fw (fun t q => XS.aconstNull X.here hx rfl hd q) k
theorem own_ldc (X : Stand p l e R s m args below meth c T locs cells slots) (hx : p.tables.exec = Jvm.exec) (hZ : Z.Warmed39 s.vm) {own : String} {index : Nat} {v : Int32} (hown : s.vm.findClass own = some m.cls) (w1 : (Jvm.Cond.constant own index v).before a0 Z = true) (hd : decode c.code pc = .ok (.ldc index, 2)) (hp : pc + 2 = pc') (k : own_G p e below s Q ce sl (T.setTop (mkF m pc' Ls (.int v :: st)))) : own_G p e below s Q ce sl (T.setTop (mkF m pc Ls st)) := by
  subst hp; exact own_fw (X.ldcInt hx hown (mvT hZ w1) (g := mkF m pc Ls st) rfl hd) k
theorem own_ldc2 (X : Stand p l e R s m args below meth c T locs cells slots) (hx : p.tables.exec = Jvm.exec) (hZ : Z.Warmed39 s.vm) {own : String} {index : Nat} {v : Int64} (hown : s.vm.findClass own = some m.cls) (w1 : (Jvm.Cond.constantLong own index v).before a0 Z = true) (hd : decode c.code pc = .ok (.ldc2_w index, 3)) (hp : pc + 3 = pc') (k : own_G p e below s Q ce sl (T.setTop (mkF m pc' Ls (.long v :: st)))) : own_G p e below s Q ce sl (T.setTop (mkF m pc Ls st)) := by
  subst hp; exact own_fw (X.ldc2Long hx hown (mvT hZ w1) (g := mkF m pc Ls st) rfl hd) k
theorem own_iadd {x y : Int32} (X : Stand p l e R s m args below meth c T locs cells slots) (hx : p.tables.exec = Jvm.exec) (hd : decode c.code pc = .ok (.iadd, 1)) (hp : pc + 1 = pc') (k : own_G p e below s Q ce sl (T.setTop (mkF m pc' Ls (.int (x + y) :: st)))) : own_G p e below s Q ce sl (T.setTop (mkF m pc Ls (.int y :: .int x :: st))) := by
  subst hp; exact own_fw (fun t q => XS.iadd X.here hx rfl hd rfl q) k
theorem own_isub {x y : Int32} (X : Stand p l e R s m args below meth c T locs cells slots) (hx : p.tables.exec = Jvm.exec) (hd : decode c.code pc = .ok (.isub, 1)) (hp : pc + 1 = pc') (k : own_G p e below s Q ce sl (T.setTop (mkF m pc' Ls (.int (x - y) :: st)))) : own_G p e below s Q ce sl (T.setTop (mkF m pc Ls (.int y :: .int x :: st))) := by
  subst hp; exact own_fw (fun t q => XS.isub X.here hx rfl hd rfl q) k
theorem own_imul {x y : Int32} (X : Stand p l e R s m args below meth c T locs cells slots) (hx : p.tables.exec = Jvm.exec) (hd : decode c.code pc = .ok (.imul, 1)) (hp : pc + 1 = pc') (k : own_G p e below s Q ce sl (T.setTop (mkF m pc' Ls (.int (x * y) :: st)))) : own_G p e below s Q ce sl (T.setTop (mkF m pc Ls (.int y :: .int x :: st))) := by
  subst hp; exact own_fw (fun t q => XS.imul X.here hx rfl hd rfl q) k
theorem own_iand {x y : Int32} (X : Stand p l e R s m args below meth c T locs cells slots) (hx : p.tables.exec = Jvm.exec) (hd : decode c.code pc = .ok (.iand, 1)) (hp : pc + 1 = pc') (k : own_G p e below s Q ce sl (T.setTop (mkF m pc' Ls (.int (x &&& y) :: st)))) : own_G p e below s Q ce sl (T.setTop (mkF m pc Ls (.int y :: .int x :: st))) := by
  subst hp; exact own_fw (fun t q => XS.iand X.here hx rfl hd rfl q) k
theorem own_ior {x y : Int32} (X : Stand p l e R s m args below meth c T locs cells slots) (hx : p.tables.exec = Jvm.exec) (hd : decode c.code pc = .ok (.ior, 1)) (hp : pc + 1 = pc') (k : own_G p e below s Q ce sl (T.setTop (mkF m pc' Ls (.int (x ||| y) :: st)))) : own_G p e below s Q ce sl (T.setTop (mkF m pc Ls (.int y :: .int x :: st))) := by
  subst hp; exact own_fw (fun t q => XS.ior X.here hx rfl hd rfl q) k
theorem own_ixor {x y : Int32} (X : Stand p l e R s m args below meth c T locs cells slots) (hx : p.tables.exec = Jvm.exec) (hd : decode c.code pc = .ok (.ixor, 1)) (hp : pc + 1 = pc') (k : own_G p e below s Q ce sl (T.setTop (mkF m pc' Ls (.int (x ^^^ y) :: st)))) : own_G p e below s Q ce sl (T.setTop (mkF m pc Ls (.int y :: .int x :: st))) := by
  subst hp; exact own_fw (fun t q => XS.ixor X.here hx rfl hd rfl q) k
theorem own_ishl {x y : Int32} (X : Stand p l e R s m args below meth c T locs cells slots) (hx : p.tables.exec = Jvm.exec) (hd : decode c.code pc = .ok (.ishl, 1)) (hp : pc + 1 = pc') (k : own_G p e below s Q ce sl (T.setTop (mkF m pc' Ls (.int (x <<< (y &&& 31)) :: st)))) : own_G p e below s Q ce sl (T.setTop (mkF m pc Ls (.int y :: .int x :: st))) := by
  subst hp; exact own_fw (fun t q => XS.ishl X.here hx rfl hd rfl q) k
theorem own_ishr {x y : Int32} (X : Stand p l e R s m args below meth c T locs cells slots) (hx : p.tables.exec = Jvm.exec) (hd : decode c.code pc = .ok (.ishr, 1)) (hp : pc + 1 = pc') (k : own_G p e below s Q ce sl (T.setTop (mkF m pc' Ls (.int (x >>> (y &&& 31)) :: st)))) : own_G p e below s Q ce sl (T.setTop (mkF m pc Ls (.int y :: .int x :: st))) := by
  subst hp; exact own_fw (fun t q => XS.ishr X.here hx rfl hd rfl q) k
theorem own_iushr {x y : Int32} (X : Stand p l e R s m args below meth c T locs cells slots) (hx : p.tables.exec = Jvm.exec) (hd : decode c.code pc = .ok (.iushr, 1)) (hp : pc + 1 = pc') (k : own_G p e below s Q ce sl (T.setTop (mkF m pc' Ls (.int ((x.toUInt32 >>> (y &&& 31).toUInt32).toInt32) :: st)))) : own_G p e below s Q ce sl (T.setTop (mkF m pc Ls (.int y :: .int x :: st))) := by
  subst hp; exact own_fw (fun t q => XS.iushr X.here hx rfl hd rfl q) k
theorem own_ladd {x y : Int64} (X : Stand p l e R s m args below meth c T locs cells slots) (hx : p.tables.exec = Jvm.exec) (hd : decode c.code pc = .ok (.ladd, 1)) (hp : pc + 1 = pc') (k : own_G p e below s Q ce sl (T.setTop (mkF m pc' Ls (.long (x + y) :: st)))) : own_G p e below s Q ce sl (T.setTop (mkF m pc Ls (.long y :: .long x :: st))) := by
  subst hp; exact own_fw (fun t q => XS.ladd X.here hx rfl hd rfl q) k
theorem own_lsub {x y : Int64} (X : Stand p l e R s m args below meth c T locs cells slots) (hx : p.tables.exec = Jvm.exec) (hd : decode c.code pc = .ok (.lsub, 1)) (hp : pc + 1 = pc') (k : own_G p e below s Q ce sl (T.setTop (mkF m pc' Ls (.long (x - y) :: st)))) : own_G p e below s Q ce sl (T.setTop (mkF m pc Ls (.long y :: .long x :: st))) := by
  subst hp; exact own_fw (fun t q => XS.lsub X.here hx rfl hd rfl q) k
theorem own_lmul {x y : Int64} (X : Stand p l e R s m args below meth c T locs cells slots) (hx : p.tables.exec = Jvm.exec) (hd : decode c.code pc = .ok (.lmul, 1)) (hp : pc + 1 = pc') (k : own_G p e below s Q ce sl (T.setTop (mkF m pc' Ls (.long (x * y) :: st)))) : own_G p e below s Q ce sl (T.setTop (mkF m pc Ls (.long y :: .long x :: st))) := by
  subst hp; exact own_fw (fun t q => XS.lmul X.here hx rfl hd rfl q) k
theorem own_land {x y : Int64} (X : Stand p l e R s m args below meth c T locs cells slots) (hx : p.tables.exec = Jvm.exec) (hd : decode c.code pc = .ok (.land, 1)) (hp : pc + 1 = pc') (k : own_G p e below s Q ce sl (T.setTop (mkF m pc' Ls (.long (x &&& y) :: st)))) : own_G p e below s Q ce sl (T.setTop (mkF m pc Ls (.long y :: .long x :: st))) := by
  subst hp; exact own_fw (fun t q => XS.land X.here hx rfl hd rfl q) k
theorem own_lor {x y : Int64} (X : Stand p l e R s m args below meth c T locs cells slots) (hx : p.tables.exec = Jvm.exec) (hd : decode c.code pc = .ok (.lor, 1)) (hp : pc + 1 = pc') (k : own_G p e below s Q ce sl (T.setTop (mkF m pc' Ls (.long (x ||| y) :: st)))) : own_G p e below s Q ce sl (T.setTop (mkF m pc Ls (.long y :: .long x :: st))) := by
  subst hp; exact own_fw (fun t q => XS.lor X.here hx rfl hd rfl q) k
theorem own_lxor {x y : Int64} (X : Stand p l e R s m args below meth c T locs cells slots) (hx : p.tables.exec = Jvm.exec) (hd : decode c.code pc = .ok (.lxor, 1)) (hp : pc + 1 = pc') (k : own_G p e below s Q ce sl (T.setTop (mkF m pc' Ls (.long (x ^^^ y) :: st)))) : own_G p e below s Q ce sl (T.setTop (mkF m pc Ls (.long y :: .long x :: st))) := by
  subst hp; exact own_fw (fun t q => XS.lxor X.here hx rfl hd rfl q) k
theorem own_lshl {x : Int64} {y : Int32} (X : Stand p l e R s m args below meth c T locs cells slots) (hx : p.tables.exec = Jvm.exec) (hd : decode c.code pc = .ok (.lshl, 1)) (hp : pc + 1 = pc') (k : own_G p e below s Q ce sl (T.setTop (mkF m pc' Ls (.long (x <<< (y &&& 0x3f).toInt64) :: st)))) : own_G p e below s Q ce sl (T.setTop (mkF m pc Ls (.int y :: .long x :: st))) := by
  subst hp; exact own_fw (fun t q => XS.lshl X.here hx rfl hd rfl q) k
theorem own_lshr {x : Int64} {y : Int32} (X : Stand p l e R s m args below meth c T locs cells slots) (hx : p.tables.exec = Jvm.exec) (hd : decode c.code pc = .ok (.lshr, 1)) (hp : pc + 1 = pc') (k : own_G p e below s Q ce sl (T.setTop (mkF m pc' Ls (.long (x >>> (y &&& 0x3f).toInt64) :: st)))) : own_G p e below s Q ce sl (T.setTop (mkF m pc Ls (.int y :: .long x :: st))) := by
  subst hp; exact own_fw (fun t q => XS.lshr X.here hx rfl hd rfl q) k
theorem own_lushr {x : Int64} {y : Int32} (X : Stand p l e R s m args below meth c T locs cells slots) (hx : p.tables.exec = Jvm.exec) (hd : decode c.code pc = .ok (.lushr, 1)) (hp : pc + 1 = pc') (k : own_G p e below s Q ce sl (T.setTop (mkF m pc' Ls (.long ((x.toUInt64 >>> (y &&& 0x3f).toInt64.toUInt64).toInt64) :: st)))) : own_G p e below s Q ce sl (T.setTop (mkF m pc Ls (.int y :: .long x :: st))) := by
  subst hp; exact own_fw (fun t q => XS.lushr X.here hx rfl hd rfl q) k
theorem own_idiv {x y : Int32} (X : Stand p l e R s m args below meth c T locs cells slots) (hx : p.tables.exec = Jvm.exec) (hd : decode c.code pc = .ok (.idiv, 1)) (hy : y ≠ 0) (hp : pc + 1 = pc') (k : own_G p e below s Q ce sl (T.setTop (mkF m pc' Ls (.int (x / y) :: st)))) : own_G p e below s Q ce sl (T.setTop (mkF m pc Ls (.int y :: .int x :: st))) := by
  subst hp; exact own_fw (fun t q => XS.idiv X.here hx rfl hd rfl hy q) k
theorem own_ldiv {x y : Int64} (X : Stand p l e R s m args below meth c T locs cells slots) (hx : p.tables.exec = Jvm.exec) (hd : decode c.code pc = .ok (.ldiv, 1)) (hy : y ≠ 0) (hp : pc + 1 = pc') (k : own_G p e below s Q ce sl (T.setTop (mkF m pc' Ls (.long (x / y) :: st)))) : own_G p e below s Q ce sl (T.setTop (mkF m pc Ls (.long y :: .long x :: st))) := by
  subst hp; exact own_fw (fun t q => XS.ldiv X.here hx rfl hd rfl hy q) k
theorem own_irem {x y : Int32} (X : Stand p l e R s m args below meth c T locs cells slots) (hx : p.tables.exec = Jvm.exec) (hd : decode c.code pc = .ok (.irem, 1)) (hy : y ≠ 0) (hp : pc + 1 = pc') (k : own_G p e below s Q ce sl (T.setTop (mkF m pc' Ls (.int (x % y) :: st)))) : own_G p e below s Q ce sl (T.setTop (mkF m pc Ls (.int y :: .int x :: st))) := by
  subst hp; exact own_fw (fun t q => iremM X hx rfl hd rfl hy q) k
theorem own_lrem {x y : Int64} (X : Stand p l e R s m args below meth c T locs cells slots) (hx : p.tables.exec = Jvm.exec) (hd : decode c.code pc = .ok (.lrem, 1)) (hy : y ≠ 0) (hp : pc + 1 = pc') (k : own_G p e below s Q ce sl (T.setTop (mkF m pc' Ls (.long (x % y) :: st)))) : own_G p e below s Q ce sl (T.setTop (mkF m pc Ls (.long y :: .long x :: st))) := by
  subst hp; rw [← lrem_mod] at k; exact own_fw (fun t q => XS.lrem X.here hx rfl hd rfl hy q) k
theorem own_ineg {x : Int32} (X : Stand p l e R s m args below meth c T locs cells slots) (hx : p.tables.exec = Jvm.exec) (hd : decode c.code pc = .ok (.ineg, 1)) (hp : pc + 1 = pc') (k : own_G p e below s Q ce sl (T.setTop (mkF m pc' Ls (.int (-x) :: st)))) : own_G p e below s Q ce sl (T.setTop (mkF m pc Ls (.int x :: st))) := by
  subst hp; exact own_fw (fun t q => XS.ineg X.here hx rfl hd rfl q) k
theorem own_lneg {x : Int64} (X : Stand p l e R s m args below meth c T locs cells slots) (hx : p.tables.exec = Jvm.exec) (hd : decode c.code pc = .ok (.lneg, 1)) (hp : pc + 1 = pc') (k : own_G p e below s Q ce sl (T.setTop (mkF m pc' Ls (.long (-x) :: st)))) : own_G p e below s Q ce sl (T.setTop (mkF m pc Ls (.long x :: st))) := by
  subst hp; exact own_fw (fun t q => XS.lneg X.here hx rfl hd rfl q) k
theorem own_i2l {x : Int32} (X : Stand p l e R s m args below meth c T locs cells slots) (hx : p.tables.exec = Jvm.exec) (hd : decode c.code pc = .ok (.i2l, 1)) (hp : pc + 1 = pc') (k : own_G p e below s Q ce sl (T.setTop (mkF m pc' Ls (.long x.toInt64 :: st)))) : own_G p e below s Q ce sl (T.setTop (mkF m pc Ls (.int x :: st))) := by
  subst hp; exact own_fw (fun t q => XS.i2l X.here hx rfl hd rfl q) k
theorem own_l2i {x : Int64} (X : Stand p l e R s m args below meth c T locs cells slots) (hx : p.tables.exec = Jvm.exec) (hd : decode c.code pc = .ok (.l2i, 1)) (hp : pc + 1 = pc') (k : own_G p e below s Q ce sl (T.setTop (mkF m pc' Ls (.int x.toInt32 :: st)))) : own_G p e below s Q ce sl (T.setTop (mkF m pc Ls (.long x :: st))) := by
  subst hp; exact own_fw (fun t q => XS.l2i X.here hx rfl hd rfl q) k
theorem own_i2b {x : Int32} (X : Stand p l e R s m args below meth c T locs cells slots) (hx : p.tables.exec = Jvm.exec) (hd : decode c.code pc = .ok (.i2b, 1)) (hp : pc + 1 = pc') (k : own_G p e below s Q ce sl (T.setTop (mkF m pc' Ls (.int x.toInt8.toInt32 :: st)))) : own_G p e below s Q ce sl (T.setTop (mkF m pc Ls (.int x :: st))) := by
  subst hp; exact own_fw (fun t q => XS.i2b X.here hx rfl hd rfl q) k
theorem own_lcmp {x y : Int64} (X : Stand p l e R s m args below meth c T locs cells slots) (hx : p.tables.exec = Jvm.exec) (hd : decode c.code pc = .ok (.lcmp, 1)) (hp : pc + 1 = pc') (k : own_G p e below s Q ce sl (T.setTop (mkF m pc' Ls (.int (lcmpW x y) :: st)))) : own_G p e below s Q ce sl (T.setTop (mkF m pc Ls (.long y :: .long x :: st))) := by
  subst hp; exact own_fw (fun t q => XS.lcmp X.here hx rfl hd rfl q) k
theorem own_dup {x : Value} (X : Stand p l e R s m args below meth c T locs cells slots) (hx : p.tables.exec = Jvm.exec) (hd : decode c.code pc = .ok (.dup, 1)) (hc : x.category = 1) (hp : pc + 1 = pc') (k : own_G p e below s Q ce sl (T.setTop (mkF m pc' Ls (x :: x :: st)))) : own_G p e below s Q ce sl (T.setTop (mkF m pc Ls (x :: st))) := by
  subst hp; exact own_fw (fun t q => XS.dup X.here hx rfl hd rfl hc q) k
theorem own_pop {x : Value} (X : Stand p l e R s m args below meth c T locs cells slots) (hx : p.tables.exec = Jvm.exec) (hd : decode c.code pc = .ok (.pop, 1)) (hc : x.category = 1) (hp : pc + 1 = pc') (k : own_G p e below s Q ce sl (T.setTop (mkF m pc' Ls st))) : own_G p e below s Q ce sl (T.setTop (mkF m pc Ls (x :: st))) := by
  subst hp; exact own_fw (fun t q => XS.pop X.here hx rfl hd rfl hc q) k
theorem own_dupX1 {x y : Value} (X : Stand p l e R s m args below meth c T locs cells slots) (hx : p.tables.exec = Jvm.exec) (hd : decode c.code pc = .ok (.dup_x1, 1)) (hc : x.category = 1) (hc' : y.category = 1) (hp : pc + 1 = pc') (k : own_G p e below s Q ce sl (T.setTop (mkF m pc' Ls (x :: y :: x :: st)))) : own_G p e below s Q ce sl (T.setTop (mkF m pc Ls (x :: y :: st))) := by
  subst hp; exact own_fw (fun t q => XS.dupX1 X.here hx rfl hd rfl hc hc' q) k
theorem own_dup2 {x y : Value} (X : Stand p l e R s m args below meth c T locs cells slots) (hx : p.tables.exec = Jvm.exec) (hd : decode c.code pc = .ok (.dup2, 1)) (hc : x.category = 1) (hc' : y.category = 1) (hp : pc + 1 = pc') (k : own_G p e below s Q ce sl (T.setTop (mkF m pc' Ls (x :: y :: x :: y :: st)))) : own_G p e below s Q ce sl (T.setTop (mkF m pc Ls (x :: y :: st))) := by
  subst hp; exact own_fw (fun t q => XT.dup2 X.here hx rfl hd rfl hc hc' q) k
theorem own_iinc {i : Nat} {cst : Int} {x z : Int32} (X : Stand p l e R s m args below meth c T locs cells slots) (hx : p.tables.exec = Jvm.exec) (hd : decode c.code pc = .ok (.iinc i cst, 3)) (hl : Ls[i]? = some (.val (.int x))) (hz : Int32.ofInt cst = z) {l' : Array Slot} (hl' : storeLocals Ls i (.int (x + z)) = some l') (hp : pc + 3 = pc') (k : own_G p e below s Q ce sl (T.setTop (mkF m pc' l' st))) : own_G p e below s Q ce sl (T.setTop (mkF m pc Ls st)) := by
  subst hp hz; exact own_fw (fun t q => XS.iinc X.here hx rfl hd hl hl' q) k
theorem own_goto {o : Int} (X : Stand p l e R s m args below meth c T locs cells slots) (hx : p.tables.exec = Jvm.exec) (hd : decode c.code pc = .ok (.goto o, 3)) (ho : 0 ≤ (pc : Int) + o) (hp : ((pc : Int) + o).toNat = pc') (k : own_G p e below s Q ce sl (T.setTop (mkF m pc' Ls st))) : own_G p e below s Q ce sl (T.setTop (mkF m pc Ls st)) := own_fw (fun t q => XS.goto X.here hx rfl (pc0 := pc) rfl hd ho hp q) k
theorem own_icmpT {o : Int} {cd : ClassFile.Cond} {x y : Int32} (X : Stand p l e R s m args below meth c T locs cells slots) (hx : p.tables.exec = Jvm.exec) (hd : decode c.code pc = .ok (.if_icmp cd o, 3)) (hc : if_icmp.holds cd x y = true) (ho : 0 ≤ (pc : Int) + o) (hp : ((pc : Int) + o).toNat = pc') (k : own_G p e below s Q ce sl (T.setTop (mkF m pc' Ls st))) : own_G p e below s Q ce sl (T.setTop (mkF m pc Ls (.int y :: .int x :: st))) := own_fw (fun t q => XS.icmpYes X.here hx rfl (pc0 := pc) rfl hd rfl hc ho hp q) k
theorem own_icmpF {o : Int} {cd : ClassFile.Cond} {x y : Int32} (X : Stand p l e R s m args below meth c T locs cells slots) (hx : p.tables.exec = Jvm.exec) (hd : decode c.code pc = .ok (.if_icmp cd o, 3)) (hc : if_icmp.holds cd x y = false) (hp : pc + 3 = pc') (k : own_G p e below s Q ce sl (T.setTop (mkF m pc' Ls st))) : own_G p e below s Q ce sl (T.setTop (mkF m pc Ls (.int y :: .int x :: st))) := by
  subst hp; exact own_fw (fun t q => XS.icmpNo X.here hx rfl hd rfl hc q) k
theorem own_ifT {o : Int} {cd : ClassFile.Cond} {x : Int32} (X : Stand p l e R s m args below meth c T locs cells slots) (hx : p.tables.exec = Jvm.exec) (hd : decode c.code pc = .ok (.ifCond cd o, 3)) (hc : if_icmp.holds cd x 0 = true) (ho : 0 ≤ (pc : Int) + o) (hp : ((pc : Int) + o).toNat = pc') (k : own_G p e below s Q ce sl (T.setTop (mkF m pc' Ls st))) : own_G p e below s Q ce sl (T.setTop (mkF m pc Ls (.int x :: st))) := own_fw (fun t q => XS.ifYes X.here hx rfl (pc0 := pc) rfl hd rfl ((if0 cd x).trans hc) ho hp q) k
theorem own_ifF {o : Int} {cd : ClassFile.Cond} {x : Int32} (X : Stand p l e R s m args below meth c T locs cells slots) (hx : p.tables.exec = Jvm.exec) (hd : decode c.code pc = .ok (.ifCond cd o, 3)) (hc : if_icmp.holds cd x 0 = false) (hp : pc + 3 = pc') (k : own_G p e below s Q ce sl (T.setTop (mkF m pc' Ls st))) : own_G p e below s Q ce sl (T.setTop (mkF m pc Ls (.int x :: st))) := by
  subst hp; exact own_fw (fun t q => XS.ifNo X.here hx rfl hd rfl ((if0 cd x).trans hc) q) k
theorem own_ltL {x y : Int64} (h : x < y) : if_icmp.holds .lt (lcmpW x y) 0 = true ∧ if_icmp.holds .ge (lcmpW x y) 0 = false ∧ if_icmp.holds .gt (lcmpW y x) 0 = true ∧ if_icmp.holds .le (lcmpW y x) 0 = false := by
  have h1 := (lw_lt x y).mpr h
  have h2 := (lw_gt y x).mpr h
  exact ⟨(tlt h1).1, (tlt h1).2.1, (tlt h2).2.2.1, (tlt h2).2.2.2⟩
theorem own_geL {x y : Int64} (h : ¬ x < y) : if_icmp.holds .lt (lcmpW x y) 0 = false ∧ if_icmp.holds .ge (lcmpW x y) 0 = true ∧ if_icmp.holds .gt (lcmpW y x) 0 = false ∧ if_icmp.holds .le (lcmpW y x) 0 = true := by
  have h1 : ¬ lcmpW x y < 0 := fun q => h ((lw_lt x y).mp q)
  have h2 : ¬ 0 < lcmpW y x := fun q => h ((lw_gt y x).mp q)
  exact ⟨(flt h1).1, (flt h1).2.1, (flt h2).2.2.1, (flt h2).2.2.2⟩
theorem own_eqL {x y : Int64} (h : x = y) : if_icmp.holds .eq (lcmpW x y) 0 = true ∧ if_icmp.holds .ne (lcmpW x y) 0 = false := teq ((lw_eq x y).mpr h)
theorem own_neL {x y : Int64} (h : ¬ x = y) : if_icmp.holds .eq (lcmpW x y) 0 = false ∧ if_icmp.holds .ne (lcmpW x y) 0 = true := feq (fun q => h ((lw_eq x y).mp q))
theorem own_bT {P : Prop} [Decidable P] (h : P) : if_icmp.holds .eq (if P then (1 : Int32) else 0) 0 = false ∧ if_icmp.holds .ne (if P then (1 : Int32) else 0) 0 = true := by rw [if_pos h]; exact ⟨rfl, rfl⟩
theorem own_bF {P : Prop} [Decidable P] (h : ¬ P) : if_icmp.holds .eq (if P then (1 : Int32) else 0) 0 = true ∧ if_icmp.holds .ne (if P then (1 : Int32) else 0) 0 = false := by rw [if_neg h]; exact ⟨rfl, rfl⟩
theorem own_b01 {P : Prop} [Decidable P] : (if P then (1 : Int32) else 0) = 0 ∨ (if P then (1 : Int32) else 0) = 1 := by by_cases h : P <;> simp [h]
theorem own_ifnonnullT {o : Int} {b : Addr} (X : Stand p l e R s m args below meth c T locs cells slots) (hx : p.tables.exec = Jvm.exec) (hd : decode c.code pc = .ok (.ifnonnull o, 3)) (ho : 0 ≤ (pc : Int) + o) (hp : ((pc : Int) + o).toNat = pc') (k : own_G p e below s Q ce sl (T.setTop (mkF m pc' Ls st))) : own_G p e below s Q ce sl (T.setTop (mkF m pc Ls (.ref b :: st))) := own_fw (fun t q => XS.ifnonnullYes X.here hx rfl (pc0 := pc) rfl hd rfl ho hp q) k
theorem own_ifnonnullF {o : Int} (X : Stand p l e R s m args below meth c T locs cells slots) (hx : p.tables.exec = Jvm.exec) (hd : decode c.code pc = .ok (.ifnonnull o, 3)) (hp : pc + 3 = pc') (k : own_G p e below s Q ce sl (T.setTop (mkF m pc' Ls st))) : own_G p e below s Q ce sl (T.setTop (mkF m pc Ls (.null :: st))) := by
  subst hp; exact own_fw (fun t q => XS.ifnonnullNo X.here hx rfl hd rfl q) k
theorem own_ifnullT {o : Int} (X : Stand p l e R s m args below meth c T locs cells slots) (hx : p.tables.exec = Jvm.exec) (hd : decode c.code pc = .ok (.ifnull o, 3)) (ho : 0 ≤ (pc : Int) + o) (hp : ((pc : Int) + o).toNat = pc') (k : own_G p e below s Q ce sl (T.setTop (mkF m pc' Ls st))) : own_G p e below s Q ce sl (T.setTop (mkF m pc Ls (.null :: st))) := own_fw (fun t q => XS.ifnullYes X.here hx rfl (pc0 := pc) rfl hd rfl ho hp q) k
theorem own_ifnullF {o : Int} {b : Addr} (X : Stand p l e R s m args below meth c T locs cells slots) (hx : p.tables.exec = Jvm.exec) (hd : decode c.code pc = .ok (.ifnull o, 3)) (hp : pc + 3 = pc') (k : own_G p e below s Q ce sl (T.setTop (mkF m pc' Ls st))) : own_G p e below s Q ce sl (T.setTop (mkF m pc Ls (.ref b :: st))) := by
  subst hp; exact own_fw (fun t q => XS.ifnullNo X.here hx rfl hd rfl q) k
theorem own_acmpT {o : Int} {cd : ACond} {x y : Value} (X : Stand p l e R s m args below meth c T locs cells slots) (hx : p.tables.exec = Jvm.exec) (hd : decode c.code pc = .ok (.if_acmp cd o, 3)) (h1 : x.isRef = true) (h2 : y.isRef = true) (hc : XT.acmp cd x y = true) (ho : 0 ≤ (pc : Int) + o) (hp : ((pc : Int) + o).toNat = pc') (k : own_G p e below s Q ce sl (T.setTop (mkF m pc' Ls st))) : own_G p e below s Q ce sl (T.setTop (mkF m pc Ls (y :: x :: st))) := own_fw (fun t q => XT.acmpYes X.here hx rfl (pc0 := pc) rfl hd rfl h1 h2 hc ho hp q) k
theorem own_acmpF {o : Int} {cd : ACond} {x y : Value} (X : Stand p l e R s m args below meth c T locs cells slots) (hx : p.tables.exec = Jvm.exec) (hd : decode c.code pc = .ok (.if_acmp cd o, 3)) (h1 : x.isRef = true) (h2 : y.isRef = true) (hc : XT.acmp cd x y = false) (hp : pc + 3 = pc') (k : own_G p e below s Q ce sl (T.setTop (mkF m pc' Ls st))) : own_G p e below s Q ce sl (T.setTop (mkF m pc Ls (y :: x :: st))) := by
  subst hp; exact own_fw (fun t q => XT.acmpNo X.here hx rfl hd rfl h1 h2 hc q) k
theorem own_getF (X : Stand p l e R s m args below meth c T locs cells slots) (hx : p.tables.exec = Jvm.exec) (hZ : Z.Warmed39 s.vm) {own O n d : String} {index : Nat} (hown : s.vm.findClass own = some m.cls) (w1 : (Jvm.Cond.fieldLink own index O n d).before a0 Z = true) (eT : T.heap = h) {a : Addr} {v : Value} (F : Fld Z h a O n d v) (hd : decode c.code pc = .ok (.getfield index, 3)) (hp : pc + 3 = pc')
    (k : ∀ T' : State, Stand p l e R s m args below meth c T' locs cells slots → T'.heap = h → own_G p e below s Q ce sl (T'.setTop (mkF m pc' Ls (v :: st)))) : own_G p e below s Q ce sl (T.setTop (mkF m pc Ls (.ref a :: st))) := by
  subst hp
  obtain ⟨T', X', e', st'⟩ := getF X hx hZ hown (host := "") (Or.inl w1) Via.refl eT F (g := mkF m pc Ls (.ref a :: st)) rfl rfl hd
  exact own_fw st' (k T' X' e')
theorem own_putF (X : Stand p l e R s m args below meth c T locs cells slots) (hx : p.tables.exec = Jvm.exec) (hZ : Z.Warmed39 s.vm) {own O n d C : String} {index kk : Nat} {ty : FieldType} (hown : s.vm.findClass own = some m.cls) (w1 : (Jvm.Cond.fieldLink own index O n d).before a0 Z = true) (eT : T.heap = h) {a : Addr} {v old : Value} (F : Fld Z h a O n d old) (E : Exa Z h a C) (L : (Jvm.Cond.lays C O n d).before a0 Z = true ∨ ((Jvm.Cond.laysFinal C O n d).before a0 Z = true ∧ own = O ∧ meth.name = "<init>")) (wi : (Jvm.Cond.instantiable C kk).before a0 Z = true) (hty : parseFieldDescriptor d = some ty) (hn : narrow ty v = v) (hf : fits ty v = true) (hd : decode c.code pc = .ok (.putfield index, 3)) (hp : pc + 3 = pc')
    (k : ∀ (T' : State) (h' : Heap), Stand p l e R s m args below meth c T' (locs ++ [⟨a, RoadKit.slotOf Z O n d⟩]) cells slots → T'.heap = h' → Wr h h' a (RoadKit.slotOf Z O n d) v → own_G p e below s Q ce sl (T'.setTop (mkF m pc' Ls st))) : own_G p e below s Q ce sl (T.setTop (mkF m pc Ls (v :: .ref a :: st))) := by
  subst hp
  obtain ⟨T', h', X', e', W', st'⟩ := putF X hx hZ hown (host := "") (Or.inl w1) Via.refl eT F E L wi hty hn hf (g := mkF m pc Ls (v :: .ref a :: st)) rfl rfl hd
  exact own_fw st' (k T' h' X' e' W')
theorem own_new (X : Stand p l e R s m args below meth c T locs cells slots) (hx : p.tables.exec = Jvm.exec) (hZ : Z.Warmed39 s.vm) {own C : String} {index n : Nat} (hown : s.vm.findClass own = some m.cls) (w1 : (Jvm.Cond.classLink own index C).before a0 Z = true) (wi : (Jvm.Cond.instantiable C n).before a0 Z = true) (wz : (Jvm.Cond.initialized C).before a0 Z = true) (eT : T.heap = h) (hd : decode c.code pc = .ok (.new index, 3)) (hp : pc + 3 = pc') (hc : cells + 1 ≤ R.cells) (hl : slots + n ≤ R.slots)
    (k : ∀ (T' : State) (h' : Heap) (a : Addr), a = h.size → Stand p l e R s m args below meth c T' locs (cells + 1) (slots + n) → T'.heap = h' → Ext h h' → Exa Z h' a C → (∀ {O nm d : String} {ty : FieldType}, Laid Z a0 C O nm d → parseFieldDescriptor d = some ty → Fld Z h' a O nm d (defaultValue ty)) → own_G p e below s Q ce sl (T'.setTop (mkF m pc' Ls (.ref a :: st)))) : own_G p e below s Q ce sl (T.setTop (mkF m pc Ls st)) := by
  subst hp
  obtain ⟨T', h', X', e', E', A', D', -, st'⟩ := newO X hx hZ hown w1 wi wz eT (g := mkF m pc Ls st) rfl hd hc hl
  exact own_fw st' (k T' h' h.size rfl X' e' E' A' D')
theorem own_initO (X : Stand p l e R s m args below meth c T locs cells slots) (hx : p.tables.exec = Jvm.exec) (hZ : Z.Warmed39 s.vm) {own : String} {idx : Nat} (hown : s.vm.findClass own = some m.cls) (w1 : (Jvm.Cond.methodLink own idx Lib.objectInit).before a0 Z = true) (w2 : (Jvm.Cond.instanceMethod Lib.objectInit).before a0 Z = true) (w3 : (Jvm.Cond.code Lib.objectInit object_method_1_code 1 none).before a0 Z = true) (eT : T.heap = h) (hsize : Ls.size = c.maxLocals) {a : Addr} (hd : decode c.code pc = .ok (.invokespecial idx, 3)) (hf : 1 ≤ R.frames) {W : Nat} (hW : (st.map fun v => v.category).sum ≤ W) (hl : W + 12 ≤ R.locals) (hp : pc + 3 = pc')
    (k : ∀ T' : State, Stand p l e R s m args below meth c T' locs cells slots → T'.heap = h → own_G p e below s Q ce sl (T'.setTop (mkF m pc' Ls st))) : own_G p e below s Q ce sl (T.setTop (mkF m pc Ls (.ref a :: st))) := by
  subst hp
  obtain ⟨T', X', e', st'⟩ := initO X hx hZ hown w1 w2 w3 eT (g := mkF m pc Ls (.ref a :: st)) rfl hsize rfl hd hf (W := W) (by show 2 * 0 + _ ≤ _; omega) hl
  exact own_fw st' (k T' X' e')
theorem own_callS (X : Stand p l e R s m args below meth c T locs cells slots) (hx : p.tables.exec = Jvm.exec) (hZ : Z.Warmed39 s.vm) {own : String} {index : Nat} {y : MethodName} {bytes : ByteArray} {maxL : Nat} {ret : Option FieldType} (hown : s.vm.findClass own = some m.cls) (w1 : (Jvm.Cond.methodLink own index y).before a0 Z = true) (w2 : (Jvm.Cond.static y).before a0 Z = true) (w3 : (Jvm.Cond.initialized y.cls).before a0 Z = true) (w4 : (Jvm.Cond.code y bytes maxL ret).before a0 Z = true) (hy : y.cls ≠ "java/lang/invoke/MethodHandle" ∧ y.cls ≠ "java/lang/invoke/VarHandle") {rm : Room} {as' : List Value} {Q' : Option Value → Heap → List Loc → Prop} (hM : own_M l Z y bytes maxL ret [] rm as'.toArray h Q' rm.cells rm.slots) (eT : T.heap = h) {W : Nat} (hf : rm.frames + 1 ≤ R.frames) (hl : W + (maxL + 11) + rm.locals ≤ R.locals) {ps : List FieldType} {r : Option FieldType} (pd : parseMethodDescriptor y.desc = some ⟨ps, r⟩) (hlen : as'.length = ps.length) {stk rest : List Value} (hstk : stk = as'.reverse ++ rest) (hd : decode c.code pc = .ok (.invokestatic index, 3)) (hW : (rest.map fun v => v.category).sum ≤ W) (hsize : Ls.size = c.maxLocals) (hc : cells + rm.cells ≤ R.cells) (hs : slots + rm.slots ≤ R.slots) (hp : pc + 3 = pc')
    (k : ∀ (v : Option Value) (T' : State) (L : List Loc), Stand p l e R s m args below meth c T' (locs ++ L) (cells + rm.cells) (slots + rm.slots) → Q' v T'.heap L → own_G p e below s Q ce sl (T'.setTop (mkF m pc' Ls (v.toList ++ rest)))) : own_G p e below s Q ce sl (T.setTop (mkF m pc Ls stk)) := by
  subst hp hstk
  obtain ⟨v, vm1, ⟨T', L', k', n'⟩, hWm, X', ⟨Lc, hQ', l', y', z'⟩, st'⟩ := Jvm.LawKit.callS X hx (y := y) hown (mvT hZ w1) (mvT hZ w2) (mvT hZ w3) (mvT hZ w4) hy (backOf (W := W) hM hZ w4 w3 hf hl) (g := mkF m pc Ls (as'.reverse ++ rest)) rfl hsize (argsL := as') (rest := rest) (lenOf pd hlen) rfl (by show 2 * 0 + _ ≤ _; omega) hd (fun _ _ => ⟨rfl, eT, hc, hs⟩)
  dsimp only [Pt.U, Pt.locs, Pt.cells, Pt.slots] at X' l' y' z' hQ'
  subst l' y' z'
  exact own_fw st' (k v T' Lc X' hQ')
theorem own_callC (X : Stand p l e R s m args below meth c T locs cells slots) (hx : p.tables.exec = Jvm.exec) (hZ : Z.Warmed39 s.vm) {own : String} {index : Nat} {y : MethodName} {bytes : ByteArray} {maxL : Nat} (hy1 : y.name = "<init>") (hown : s.vm.findClass own = some m.cls) (w1 : (Jvm.Cond.methodLink own index y).before a0 Z = true) (w2 : (Jvm.Cond.instanceMethod y).before a0 Z = true) (w3 : (Jvm.Cond.initialized y.cls).before a0 Z = true) (w4 : (Jvm.Cond.code y bytes maxL none).before a0 Z = true) (hy : y.cls ≠ "java/lang/invoke/MethodHandle" ∧ y.cls ≠ "java/lang/invoke/VarHandle") {a : Addr} {rm : Room} {as' : List Value} {Q' : Option Value → Heap → List Loc → Prop} (hM : own_M l Z y bytes maxL none [] rm (.ref a :: as').toArray h Q' rm.cells rm.slots) (eT : T.heap = h) {W : Nat} (hf : rm.frames + 1 ≤ R.frames) (hl : W + (maxL + 11) + rm.locals ≤ R.locals) {ps : List FieldType} {r : Option FieldType} (pd : parseMethodDescriptor y.desc = some ⟨ps, r⟩) (hlen : as'.length = ps.length) {stk rest : List Value} (hstk : stk = as'.reverse ++ .ref a :: rest) (hd : decode c.code pc = .ok (.invokespecial index, 3)) (hW : (rest.map fun v => v.category).sum ≤ W) (hsize : Ls.size = c.maxLocals) (hc : cells + rm.cells ≤ R.cells) (hs : slots + rm.slots ≤ R.slots) (hp : pc + 3 = pc')
    (k : ∀ (v : Option Value) (T' : State) (L : List Loc), Stand p l e R s m args below meth c T' (locs ++ L) (cells + rm.cells) (slots + rm.slots) → Q' v T'.heap L → own_G p e below s Q ce sl (T'.setTop (mkF m pc' Ls (v.toList ++ rest)))) : own_G p e below s Q ce sl (T.setTop (mkF m pc Ls stk)) := by
  subst hp hstk
  obtain ⟨v, vm1, ⟨T', L', k', n'⟩, hWm, X', ⟨Lc, hQ', l', y', z'⟩, st'⟩ := X.specialBack hx (y := y) hy1 hown (mvT hZ w1) (mvT hZ w2) (mvT hZ w4) hy (backOf (W := W) hM hZ w4 w3 hf hl) (g := mkF m pc Ls (as'.reverse ++ .ref a :: rest)) rfl hsize (Steps.refl _) (a := a) (argsL := as') (rest := rest) (lenOf pd hlen) rfl (by show 2 * 0 + _ ≤ _; omega) hd (fun _ _ => ⟨rfl, eT, hc, hs⟩)
  dsimp only [Pt.U, Pt.locs, Pt.cells, Pt.slots] at X' l' y' z' hQ'
  subst l' y' z'
  exact own_fw (fun t q => st'.trans q) (k v T' Lc X' hQ')
theorem own_callV (X : Stand p l e R s m args below meth c T locs cells slots) (hx : p.tables.exec = Jvm.exec) (hZ : Z.Warmed39 s.vm) {own C : String} {index : Nat} {y : MethodName} {bytes : ByteArray} {maxL : Nat} {ret : Option FieldType} (hown : s.vm.findClass own = some m.cls) (w1 : (Jvm.Cond.methodLink own index y).before a0 Z = true) (w2 : (Jvm.Cond.declares y).before a0 Z = true) (w3 : (Jvm.Cond.selects C y y).before a0 Z = true) (w4 : (Jvm.Cond.instanceMethod y).before a0 Z = true) (w5 : (Jvm.Cond.initialized y.cls).before a0 Z = true) (w6 : (Jvm.Cond.code y bytes maxL ret).before a0 Z = true) (hy : y.cls ≠ "java/lang/invoke/MethodHandle" ∧ y.cls ≠ "java/lang/invoke/VarHandle") {a : Addr} (E : Exa Z h a C) {rm : Room} {as' : List Value} {Q' : Option Value → Heap → List Loc → Prop} (hM : own_M l Z y bytes maxL ret [] rm (.ref a :: as').toArray h Q' rm.cells rm.slots) (eT : T.heap = h) {W : Nat} (hf : rm.frames + 1 ≤ R.frames) (hl : W + (maxL + 11) + rm.locals ≤ R.locals) {ps : List FieldType} {r : Option FieldType} (pd : parseMethodDescriptor y.desc = some ⟨ps, r⟩) (hlen : as'.length = ps.length) {stk rest : List Value} (hstk : stk = as'.reverse ++ .ref a :: rest) (hd : decode c.code pc = .ok (.invokevirtual index, 3)) (hW : (rest.map fun v => v.category).sum ≤ W) (hsize : Ls.size = c.maxLocals) (hc : cells + rm.cells ≤ R.cells) (hs : slots + rm.slots ≤ R.slots) (hp : pc + 3 = pc')
    (k : ∀ (v : Option Value) (T' : State) (L : List Loc), Stand p l e R s m args below meth c T' (locs ++ L) (cells + rm.cells) (slots + rm.slots) → Q' v T'.heap L → own_G p e below s Q ce sl (T'.setTop (mkF m pc' Ls (v.toList ++ rest)))) : own_G p e below s Q ce sl (T.setTop (mkF m pc Ls stk)) := by
  subst hp hstk
  obtain ⟨cq, kq, qa, qb, qc⟩ := isOf hZ eT E
  obtain ⟨v, vm1, ⟨T', L', k', n'⟩, hWm, X', ⟨Lc, hQ', l', y', z'⟩, st'⟩ := X.virtualBack hx (y := y) (z := y) hown (mvT hZ w1) (mvT hZ w2) (notFace_of_selects (args := #[]) (mvT hZ w3)) (mvT hZ w3) (mvT hZ w4) hy (backOf (W := W) hM hZ w6 w5 hf hl) qa qc (g := mkF m pc Ls (as'.reverse ++ .ref a :: rest)) rfl hsize (Steps.refl _) (argsL := as') (rest := rest) (lenOf pd hlen) rfl (by show 2 * 0 + _ ≤ _; omega) hd (fun _ _ => ⟨rfl, eT, hc, hs⟩)
  dsimp only [Pt.U, Pt.locs, Pt.cells, Pt.slots] at X' l' y' z' hQ'
  subst l' y' z'
  exact own_fw (fun t q => st'.trans q) (k v T' Lc X' hQ')
end OwnHead
theorem od_jdk_30_method_1_0 : decode jdk_30_method_1_code 0 = .ok (.aload_n 0, 1) := by decide +kernel
theorem od_jdk_30_method_1_1 : decode jdk_30_method_1_code 1 = .ok (.invokespecial 1, 3) := by decide +kernel
theorem ow_17 {Z : State} {a0 : Array Value} (hw : ∀ d ∈ tables_1, d.before a0 Z = true) : (Jvm.Cond.methodLink "java/lang/Record" (1 : Nat) ({ cls := "java/lang/Object", name := "<init>", desc := "()V" } : Jvm.MethodName)).before a0 Z = true := hw _ (List.mem_of_getElem? (i := 17) rfl)
theorem ow_18 {Z : State} {a0 : Array Value} (hw : ∀ d ∈ tables_1, d.before a0 Z = true) : (Jvm.Cond.instanceMethod ({ cls := "java/lang/Object", name := "<init>", desc := "()V" } : Jvm.MethodName)).before a0 Z = true := hw _ (List.mem_of_getElem? (i := 18) rfl)
theorem ow_19 {Z : State} {a0 : Array Value} (hw : ∀ d ∈ tables_1, d.before a0 Z = true) : (Jvm.Cond.code ({ cls := "java/lang/Object", name := "<init>", desc := "()V" } : Jvm.MethodName) object_method_1_code (1 : Nat) (Option.none : Option Jvm.ClassFile.FieldType)).before a0 Z = true := hw _ (List.mem_of_getElem? (i := 19) rfl)
theorem od_jdk_30_method_1_4 : decode jdk_30_method_1_code 4 = .ok (.return_, 1) := by decide +kernel
theorem opn_java_lang_Record : plainName "java/lang/Record" = true := by first | (simp [plainName, overriddenIn]; done) | decide +kernel
theorem oef_rm_rec (m : MethodId) (ra : Addr) : entryFrame m #[(.ref ra)] 1 = mkF m 0 #[.val (.ref ra)] [] := by first | (simp [entryFrame, mkF, argsToLocals, Value.category]; done) | rfl
set_option maxRecDepth 65536 in
set_option maxHeartbeats 40000000 in
theorem rm_rec (l : Launch) (Z : State) (a0 : Array Value) (hw : ∀ d ∈ tables_1, d.before a0 Z = true) (ra : Addr) (h0 : Heap) (n0 : Nat) (Z0 : n0 ≤ h0.size)  :
    own_M l Z (⟨"java/lang/Record", "<init>", "()V"⟩ : MethodName) jdk_30_method_1_code 1 none [] ({ frames := 1, cells := 0, slots := 0, locals := 12 } : Room) #[(.ref ra)] h0 (fun v h L => v = none ∧ Fr n0 L ∧ (h = h0)) 0 0 := by
  refine own_body (plainFor_of_name opn_java_lang_Record) ?_
  intro p e s m below meth c s1 hx hby hml hown hnm hret hlk hZ X0 e0
  rw [oef_rm_rec m ra]
  have N0 := Fr.nil n0
  refine own_aloadN X0 hx (hb hby od_jdk_30_method_1_0) rfl rfl (pc' := 1) rfl ?_
  refine own_initO X0 hx hZ hown (ow_17 hw) (ow_18 hw) (ow_19 hw) e0 (by rw [hml]; rfl) (hb hby od_jdk_30_method_1_1) (by decide) (W := 0) (Nat.le_of_eq rfl) (by decide) (pc' := 4) rfl ?_
  intro T1 X1 e1
  exact own_retV X1 hx hret hlk (hb hby od_jdk_30_method_1_4) ⟨rfl, N0, e1⟩ (by decide) (by decide)
theorem od_prog_42_method_1_0 : decode prog_42_method_1_code 0 = .ok (.aload_n 0, 1) := by decide +kernel
theorem od_prog_42_method_1_1 : decode prog_42_method_1_code 1 = .ok (.invokespecial 1, 3) := by decide +kernel
theorem ow_12 {Z : State} {a0 : Array Value} (hw : ∀ d ∈ tables_1, d.before a0 Z = true) : (Jvm.Cond.methodLink "com/example/portcrier/portcrier/wire/portmap/Mapping" (1 : Nat) ({ cls := "java/lang/Record", name := "<init>", desc := "()V" } : Jvm.MethodName)).before a0 Z = true := hw _ (List.mem_of_getElem? (i := 12) rfl)
theorem opd___V : parseMethodDescriptor "()V" = some ⟨[], none⟩ := by decide +kernel
theorem ow_13 {Z : State} {a0 : Array Value} (hw : ∀ d ∈ tables_1, d.before a0 Z = true) : (Jvm.Cond.instanceMethod ({ cls := "java/lang/Record", name := "<init>", desc := "()V" } : Jvm.MethodName)).before a0 Z = true := hw _ (List.mem_of_getElem? (i := 13) rfl)
theorem ow_15 {Z : State} {a0 : Array Value} (hw : ∀ d ∈ tables_1, d.before a0 Z = true) : (Jvm.Cond.initialized "java/lang/Record").before a0 Z = true := hw _ (List.mem_of_getElem? (i := 15) rfl)
theorem ow_16 {Z : State} {a0 : Array Value} (hw : ∀ d ∈ tables_1, d.before a0 Z = true) : (Jvm.Cond.code ({ cls := "java/lang/Record", name := "<init>", desc := "()V" } : Jvm.MethodName) jdk_30_method_1_code (1 : Nat) (Option.none : Option Jvm.ClassFile.FieldType)).before a0 Z = true := hw _ (List.mem_of_getElem? (i := 16) rfl)
theorem od_prog_42_method_1_4 : decode prog_42_method_1_code 4 = .ok (.aload_n 0, 1) := by decide +kernel
theorem od_prog_42_method_1_5 : decode prog_42_method_1_code 5 = .ok (.iload_n 1, 1) := by decide +kernel
theorem od_prog_42_method_1_6 : decode prog_42_method_1_code 6 = .ok (.putfield 7, 3) := by decide +kernel
theorem ow_20 {Z : State} {a0 : Array Value} (hw : ∀ d ∈ tables_1, d.before a0 Z = true) : (Jvm.Cond.fieldLink "com/example/portcrier/portcrier/wire/portmap/Mapping" (7 : Nat) "com/example/portcrier/portcrier/wire/portmap/Mapping" "program" "I").before a0 Z = true := hw _ (List.mem_of_getElem? (i := 20) rfl)
theorem ow_21 {Z : State} {a0 : Array Value} (hw : ∀ d ∈ tables_1, d.before a0 Z = true) : (Jvm.Cond.laysFinal "com/example/portcrier/portcrier/wire/portmap/Mapping" "com/example/portcrier/portcrier/wire/portmap/Mapping" "program" "I").before a0 Z = true := hw _ (List.mem_of_getElem? (i := 21) rfl)
theorem ow_7 {Z : State} {a0 : Array Value} (hw : ∀ d ∈ tables_1, d.before a0 Z = true) : (Jvm.Cond.instantiable "com/example/portcrier/portcrier/wire/portmap/Mapping" (4 : Nat)).before a0 Z = true := hw _ (List.mem_of_getElem? (i := 7) rfl)
theorem od_prog_42_method_1_9 : decode prog_42_method_1_code 9 = .ok (.aload_n 0, 1) := by decide +kernel
theorem od_prog_42_method_1_10 : decode prog_42_method_1_code 10 = .ok (.iload_n 2, 1) := by decide +kernel
theorem od_prog_42_method_1_11 : decode prog_42_method_1_code 11 = .ok (.putfield 13, 3) := by decide +kernel
theorem ow_22 {Z : State} {a0 : Array Value} (hw : ∀ d ∈ tables_1, d.before a0 Z = true) : (Jvm.Cond.fieldLink "com/example/portcrier/portcrier/wire/portmap/Mapping" (13 : Nat) "com/example/portcrier/portcrier/wire/portmap/Mapping" "version" "I").before a0 Z = true := hw _ (List.mem_of_getElem? (i := 22) rfl)
theorem ow_23 {Z : State} {a0 : Array Value} (hw : ∀ d ∈ tables_1, d.before a0 Z = true) : (Jvm.Cond.laysFinal "com/example/portcrier/portcrier/wire/portmap/Mapping" "com/example/portcrier/portcrier/wire/portmap/Mapping" "version" "I").before a0 Z = true := hw _ (List.mem_of_getElem? (i := 23) rfl)
theorem osn_0 {Z : State} {a0 : Array Value} (hw : ∀ d ∈ tables_1, d.before a0 Z = true) : RoadKit.slotOf Z "com/example/portcrier/portcrier/wire/portmap/Mapping" "version" "I" ≠ RoadKit.slotOf Z "com/example/portcrier/portcrier/wire/portmap/Mapping" "program" "I" := slot_ne (C := "com/example/portcrier/portcrier/wire/portmap/Mapping") (Or.inr (ow_23 hw)) (Or.inr (ow_21 hw)) (by decide) (t := .int) (t' := .int) (by decide) (by decide)
theorem od_prog_42_method_1_14 : decode prog_42_method_1_code 14 = .ok (.aload_n 0, 1) := by decide +kernel
theorem od_prog_42_method_1_15 : decode prog_42_method_1_code 15 = .ok (.iload_n 3, 1) := by decide +kernel
theorem od_prog_42_method_1_16 : decode prog_42_method_1_code 16 = .ok (.putfield 16, 3) := by decide +kernel
theorem ow_24 {Z : State} {a0 : Array Value} (hw : ∀ d ∈ tables_1, d.before a0 Z = true) : (Jvm.Cond.fieldLink "com/example/portcrier/portcrier/wire/portmap/Mapping" (16 : Nat) "com/example/portcrier/portcrier/wire/portmap/Mapping" "protocol" "I").before a0 Z = true := hw _ (List.mem_of_getElem? (i := 24) rfl)
theorem ow_25 {Z : State} {a0 : Array Value} (hw : ∀ d ∈ tables_1, d.before a0 Z = true) : (Jvm.Cond.laysFinal "com/example/portcrier/portcrier/wire/portmap/Mapping" "com/example/portcrier/portcrier/wire/portmap/Mapping" "protocol" "I").before a0 Z = true := hw _ (List.mem_of_getElem? (i := 25) rfl)
theorem osn_1 {Z : State} {a0 : Array Value} (hw : ∀ d ∈ tables_1, d.before a0 Z = true) : RoadKit.slotOf Z "com/example/portcrier/portcrier/wire/portmap/Mapping" "protocol" "I" ≠ RoadKit.slotOf Z "com/example/portcrier/portcrier/wire/portmap/Mapping" "program" "I" := slot_ne (C := "com/example/portcrier/portcrier/wire/portmap/Mapping") (Or.inr (ow_25 hw)) (Or.inr (ow_21 hw)) (by decide) (t := .int) (t' := .int) (by decide) (by decide)
theorem osn_2 {Z : State} {a0 : Array Value} (hw : ∀ d ∈ tables_1, d.before a0 Z = true) : RoadKit.slotOf Z "com/example/portcrier/portcrier/wire/portmap/Mapping" "protocol" "I" ≠ RoadKit.slotOf Z "com/example/portcrier/portcrier/wire/portmap/Mapping" "version" "I" := slot_ne (C := "com/example/portcrier/portcrier/wire/portmap/Mapping") (Or.inr (ow_25 hw)) (Or.inr (ow_23 hw)) (by decide) (t := .int) (t' := .int) (by decide) (by decide)
theorem od_prog_42_method_1_19 : decode prog_42_method_1_code 19 = .ok (.aload_n 0, 1) := by decide +kernel
theorem od_prog_42_method_1_20 : decode prog_42_method_1_code 20 = .ok (.iload 4, 2) := by decide +kernel
theorem od_prog_42_method_1_22 : decode prog_42_method_1_code 22 = .ok (.putfield 19, 3) := by decide +kernel
theorem ow_26 {Z : State} {a0 : Array Value} (hw : ∀ d ∈ tables_1, d.before a0 Z = true) : (Jvm.Cond.fieldLink "com/example/portcrier/portcrier/wire/portmap/Mapping" (19 : Nat) "com/example/portcrier/portcrier/wire/portmap/Mapping" "port" "I").before a0 Z = true := hw _ (List.mem_of_getElem? (i := 26) rfl)
theorem ow_27 {Z : State} {a0 : Array Value} (hw : ∀ d ∈ tables_1, d.before a0 Z = true) : (Jvm.Cond.laysFinal "com/example/portcrier/portcrier/wire/portmap/Mapping" "com/example/portcrier/portcrier/wire/portmap/Mapping" "port" "I").before a0 Z = true := hw _ (List.mem_of_getElem? (i := 27) rfl)
theorem osn_3 {Z : State} {a0 : Array Value} (hw : ∀ d ∈ tables_1, d.before a0 Z = true) : RoadKit.slotOf Z "com/example/portcrier/portcrier/wire/portmap/Mapping" "port" "I" ≠ RoadKit.slotOf Z "com/example/portcrier/portcrier/wire/portmap/Mapping" "program" "I" := slot_ne (C := "com/example/portcrier/portcrier/wire/portmap/Mapping") (Or.inr (ow_27 hw)) (Or.inr (ow_21 hw)) (by decide) (t := .int) (t' := .int) (by decide) (by decide)
theorem osn_4 {Z : State} {a0 : Array Value} (hw : ∀ d ∈ tables_1, d.before a0 Z = true) : RoadKit.slotOf Z "com/example/portcrier/portcrier/wire/portmap/Mapping" "port" "I" ≠ RoadKit.slotOf Z "com/example/portcrier/portcrier/wire/portmap/Mapping" "version" "I" := slot_ne (C := "com/example/portcrier/portcrier/wire/portmap/Mapping") (Or.inr (ow_27 hw)) (Or.inr (ow_23 hw)) (by decide) (t := .int) (t' := .int) (by decide) (by decide)
theorem osn_5 {Z : State} {a0 : Array Value} (hw : ∀ d ∈ tables_1, d.before a0 Z = true) : RoadKit.slotOf Z "com/example/portcrier/portcrier/wire/portmap/Mapping" "port" "I" ≠ RoadKit.slotOf Z "com/example/portcrier/portcrier/wire/portmap/Mapping" "protocol" "I" := slot_ne (C := "com/example/portcrier/portcrier/wire/portmap/Mapping") (Or.inr (ow_27 hw)) (Or.inr (ow_25 hw)) (by decide) (t := .int) (t' := .int) (by decide) (by decide)
theorem od_prog_42_method_1_25 : decode prog_42_method_1_code 25 = .ok (.return_, 1) := by decide +kernel
theorem osn_6 {Z : State} {a0 : Array Value} (hw : ∀ d ∈ tables_1, d.before a0 Z = true) : RoadKit.slotOf Z "com/example/portcrier/portcrier/wire/portmap/Mapping" "program" "I" ≠ RoadKit.slotOf Z "com/example/portcrier/portcrier/wire/portmap/Mapping" "version" "I" := slot_ne (C := "com/example/portcrier/portcrier/wire/portmap/Mapping") (Or.inr (ow_21 hw)) (Or.inr (ow_23 hw)) (by decide) (t := .int) (t' := .int) (by decide) (by decide)
theorem osn_7 {Z : State} {a0 : Array Value} (hw : ∀ d ∈ tables_1, d.before a0 Z = true) : RoadKit.slotOf Z "com/example/portcrier/portcrier/wire/portmap/Mapping" "program" "I" ≠ RoadKit.slotOf Z "com/example/portcrier/portcrier/wire/portmap/Mapping" "protocol" "I" := slot_ne (C := "com/example/portcrier/portcrier/wire/portmap/Mapping") (Or.inr (ow_21 hw)) (Or.inr (ow_25 hw)) (by decide) (t := .int) (t' := .int) (by decide) (by decide)
theorem osn_8 {Z : State} {a0 : Array Value} (hw : ∀ d ∈ tables_1, d.before a0 Z = true) : RoadKit.slotOf Z "com/example/portcrier/portcrier/wire/portmap/Mapping" "program" "I" ≠ RoadKit.slotOf Z "com/example/portcrier/portcrier/wire/portmap/Mapping" "port" "I" := slot_ne (C := "com/example/portcrier/portcrier/wire/portmap/Mapping") (Or.inr (ow_21 hw)) (Or.inr (ow_27 hw)) (by decide) (t := .int) (t' := .int) (by decide) (by decide)
theorem osn_9 {Z : State} {a0 : Array Value} (hw : ∀ d ∈ tables_1, d.before a0 Z = true) : RoadKit.slotOf Z "com/example/portcrier/portcrier/wire/portmap/Mapping" "version" "I" ≠ RoadKit.slotOf Z "com/example/portcrier/portcrier/wire/portmap/Mapping" "protocol" "I" := slot_ne (C := "com/example/portcrier/portcrier/wire/portmap/Mapping") (Or.inr (ow_23 hw)) (Or.inr (ow_25 hw)) (by decide) (t := .int) (t' := .int) (by decide) (by decide)
theorem osn_10 {Z : State} {a0 : Array Value} (hw : ∀ d ∈ tables_1, d.before a0 Z = true) : RoadKit.slotOf Z "com/example/portcrier/portcrier/wire/portmap/Mapping" "version" "I" ≠ RoadKit.slotOf Z "com/example/portcrier/portcrier/wire/portmap/Mapping" "port" "I" := slot_ne (C := "com/example/portcrier/portcrier/wire/portmap/Mapping") (Or.inr (ow_23 hw)) (Or.inr (ow_27 hw)) (by decide) (t := .int) (t' := .int) (by decide) (by decide)
theorem osn_11 {Z : State} {a0 : Array Value} (hw : ∀ d ∈ tables_1, d.before a0 Z = true) : RoadKit.slotOf Z "com/example/portcrier/portcrier/wire/portmap/Mapping" "protocol" "I" ≠ RoadKit.slotOf Z "com/example/portcrier/portcrier/wire/portmap/Mapping" "port" "I" := slot_ne (C := "com/example/portcrier/portcrier/wire/portmap/Mapping") (Or.inr (ow_25 hw)) (Or.inr (ow_27 hw)) (by decide) (t := .int) (t' := .int) (by decide) (by decide)
theorem opn_com_example_portcrier_portcrier_wire_portmap_Mapping : plainName "com/example/portcrier/portcrier/wire/portmap/Mapping" = true := by first | (simp [plainName, overriddenIn]; done) | decide +kernel
theorem oef_rm_mi (m : MethodId) (ra : Addr) (u0 : Int32) (u1 : Int32) (u2 : Int32) (u3 : Int32) : entryFrame m #[(.ref ra), (.int u0), (.int u1), (.int u2), (.int u3)] 5 = mkF m 0 #[.val (.ref ra), .val (.int u0), .val (.int u1), .val (.int u2), .val (.int u3)] [] := by first | (simp [entryFrame, mkF, argsToLocals, Value.category]; done) | rfl
set_option maxRecDepth 65536 in
set_option maxHeartbeats 40000000 in
theorem rm_mi (l : Launch) (Z : State) (a0 : Array Value) (hw : ∀ d ∈ tables_1, d.before a0 Z = true) (ra : Addr) (u0 : Int32) (u1 : Int32) (u2 : Int32) (u3 : Int32) (w0 : Value) (w1 : Value) (w2 : Value) (w3 : Value) (h0 : Heap) (n0 : Nat) (Z0 : n0 ≤ h0.size) (P0 : Exa Z h0 ra "com/example/portcrier/portcrier/wire/portmap/Mapping") (P1 : Fld Z h0 ra "com/example/portcrier/portcrier/wire/portmap/Mapping" "program" "I" (w0)) (P2 : Fld Z h0 ra "com/example/portcrier/portcrier/wire/portmap/Mapping" "version" "I" (w1)) (P3 : Fld Z h0 ra "com/example/portcrier/portcrier/wire/portmap/Mapping" "protocol" "I" (w2)) (P4 : Fld Z h0 ra "com/example/portcrier/portcrier/wire/portmap/Mapping" "port" "I" (w3)) (g_ra : n0 ≤ ra) :
    own_M l Z (⟨"com/example/portcrier/portcrier/wire/portmap/Mapping", "<init>", "(IIII)V"⟩ : MethodName) prog_42_method_1_code 5 none [] ({ frames := 2, cells := 0, slots := 0, locals := 24 } : Room) #[(.ref ra), (.int u0), (.int u1), (.int u2), (.int u3)] h0 (fun v h L => v = none ∧ Fr n0 L ∧ (Keep h0 h [ra]) ∧ (Fld Z h ra "com/example/portcrier/portcrier/wire/portmap/Mapping" "program" "I" (.int u0)) ∧ (Fld Z h ra "com/example/portcrier/portcrier/wire/portmap/Mapping" "version" "I" (.int u1)) ∧ (Fld Z h ra "com/example/portcrier/portcrier/wire/portmap/Mapping" "protocol" "I" (.int u2)) ∧ (Fld Z h ra "com/example/portcrier/portcrier/wire/portmap/Mapping" "port" "I" (.int u3))) 0 0 := by
  refine own_body (plainFor_of_name opn_com_example_portcrier_portcrier_wire_portmap_Mapping) ?_
  intro p e s m below meth c s1 hx hby hml hown hnm hret hlk hZ X0 e0
  rw [oef_rm_mi m ra u0 u1 u2 u3]
  have N0 := Fr.nil n0
  refine own_aloadN X0 hx (hb hby od_prog_42_method_1_0) rfl rfl (pc' := 1) rfl ?_
  refine own_callC X0 hx hZ rfl hown (ow_12 hw) (ow_13 hw) (ow_15 hw) (ow_16 hw) (by decide) (rm_rec l Z a0 hw ra h0 n0 Z0) e0 (W := 0) (by decide) (by decide) opd___V rfl (rest := []) rfl (hb hby od_prog_42_method_1_1) (Nat.le_of_eq rfl) (by rw [hml]; rfl) (by decide) (by decide) (pc' := 4) rfl ?_
  intro v1 T1 L1 X1 q1
  obtain ⟨rfl, Nq1, eh1⟩ := q1
  have N1 := Fr.app N0 Nq1
  show own_G p e below s _ _ _ (T1.setTop (mkF m 4 #[.val (.ref ra), .val (.int u0), .val (.int u1), .val (.int u2), .val (.int u3)] []))
  refine own_aloadN X1 hx (hb hby od_prog_42_method_1_4) rfl rfl (pc' := 5) rfl ?_
  refine own_iloadN X1 hx (hb hby od_prog_42_method_1_5) rfl (pc' := 6) rfl ?_
  refine own_putF X1 hx hZ hown (ow_20 hw) eh1 P1 P0 (Or.inr ⟨(ow_21 hw), rfl, hnm⟩) (ow_7 hw) (ty := .int) (by decide) rfl rfl (hb hby od_prog_42_method_1_6) (pc' := 9) rfl ?_
  intro T2 h2 X2 e2 W2
  have N2 := Fr.snoc X2 N1 g_ra
  refine own_aloadN X2 hx (hb hby od_prog_42_method_1_9) rfl rfl (pc' := 10) rfl ?_
  refine own_iloadN X2 hx (hb hby od_prog_42_method_1_10) rfl (pc' := 11) rfl ?_
  have f3 : Fld Z h2 ra "com/example/portcrier/portcrier/wire/portmap/Mapping" "version" "I" (w1) := (P2.other W2 (Or.inr (osn_0 hw)))
  have f4 : Exa Z h2 ra "com/example/portcrier/portcrier/wire/portmap/Mapping" := (P0.wr W2)
  refine own_putF X2 hx hZ hown (ow_22 hw) e2 f3 f4 (Or.inr ⟨(ow_23 hw), rfl, hnm⟩) (ow_7 hw) (ty := .int) (by decide) rfl rfl (hb hby od_prog_42_method_1_11) (pc' := 14) rfl ?_
  intro T5 h5 X5 e5 W5
  have N5 := Fr.snoc X5 N2 g_ra
  refine own_aloadN X5 hx (hb hby od_prog_42_method_1_14) rfl rfl (pc' := 15) rfl ?_
  refine own_iloadN X5 hx (hb hby od_prog_42_method_1_15) rfl (pc' := 16) rfl ?_
  have f6 : Fld Z h5 ra "com/example/portcrier/portcrier/wire/portmap/Mapping" "protocol" "I" (w2) := ((P3.other W2 (Or.inr (osn_1 hw))).other W5 (Or.inr (osn_2 hw)))
  have f7 : Exa Z h5 ra "com/example/portcrier/portcrier/wire/portmap/Mapping" := (f4.wr W5)
  refine own_putF X5 hx hZ hown (ow_24 hw) e5 f6 f7 (Or.inr ⟨(ow_25 hw), rfl, hnm⟩) (ow_7 hw) (ty := .int) (by decide) rfl rfl (hb hby od_prog_42_method_1_16) (pc' := 19) rfl ?_
  intro T8 h8 X8 e8 W8
  have N8 := Fr.snoc X8 N5 g_ra
  refine own_aloadN X8 hx (hb hby od_prog_42_method_1_19) rfl rfl (pc' := 20) rfl ?_
  refine own_iload X8 hx (hb hby od_prog_42_method_1_20) rfl (pc' := 22) rfl ?_
  have f9 : Fld Z h8 ra "com/example/portcrier/portcrier/wire/portmap/Mapping" "port" "I" (w3) := (((P4.other W2 (Or.inr (osn_3 hw))).other W5 (Or.inr (osn_4 hw))).other W8 (Or.inr (osn_5 hw)))
  have f10 : Exa Z h8 ra "com/example/portcrier/portcrier/wire/portmap/Mapping" := (f7.wr W8)
  refine own_putF X8 hx hZ hown (ow_26 hw) e8 f9 f10 (Or.inr ⟨(ow_27 hw), rfl, hnm⟩) (ow_7 hw) (ty := .int) (by decide) rfl rfl (hb hby od_prog_42_method_1_22) (pc' := 25) rfl ?_
  intro T11 h11 X11 e11 W11
  have N11 := Fr.snoc X11 N8 g_ra
  have k16 : Keep h0 h11 [ra] := (Keep.wr (Keep.wr (Keep.wr (Keep.wr (Keep.refl _ _) W2 (Or.inl (List.mem_of_getElem? (i := 0) rfl))) W5 (Or.inl (List.mem_of_getElem? (i := 0) rfl))) W8 (Or.inl (List.mem_of_getElem? (i := 0) rfl))) W11 (Or.inl (List.mem_of_getElem? (i := 0) rfl)))
  have f17 : Fld Z h11 ra "com/example/portcrier/portcrier/wire/portmap/Mapping" "program" "I" (.int u0) := ((((P1.same W2).other W5 (Or.inr (osn_6 hw))).other W8 (Or.inr (osn_7 hw))).other W11 (Or.inr (osn_8 hw)))
  have f18 : Fld Z h11 ra "com/example/portcrier/portcrier/wire/portmap/Mapping" "version" "I" (.int u1) := (((f3.same W5).other W8 (Or.inr (osn_9 hw))).other W11 (Or.inr (osn_10 hw)))
  have f19 : Fld Z h11 ra "com/example/portcrier/portcrier/wire/portmap/Mapping" "protocol" "I" (.int u2) := ((f6.same W8).other W11 (Or.inr (osn_11 hw)))
  exact own_retV X11 hx hret hlk (hb hby od_prog_42_method_1_25) ⟨rfl, N11, (by rw [e11]; exact k16), (by rw [e11]; exact f17), (by rw [e11]; exact f18), (by rw [e11]; exact f19), (by rw [e11]; exact (f9.same W11))⟩ (by decide) (by decide)
theorem od_prog_21_method_1_0 : decode prog_21_method_1_code 0 = .ok (.aload_n 0, 1) := by decide +kernel
theorem od_prog_21_method_1_1 : decode prog_21_method_1_code 1 = .ok (.invokespecial 1, 3) := by decide +kernel
theorem ow_31 {Z : State} {a0 : Array Value} (hw : ∀ d ∈ tables_1, d.before a0 Z = true) : (Jvm.Cond.methodLink "com/example/portcrier/portcrier/engine/portmap/MappingChange" (1 : Nat) ({ cls := "java/lang/Record", name := "<init>", desc := "()V" } : Jvm.MethodName)).before a0 Z = true := hw _ (List.mem_of_getElem? (i := 31) rfl)
theorem od_prog_21_method_1_4 : decode prog_21_method_1_code 4 = .ok (.aload_n 0, 1) := by decide +kernel
theorem od_prog_21_method_1_5 : decode prog_21_method_1_code 5 = .ok (.iload_n 1, 1) := by decide +kernel
theorem od_prog_21_method_1_6 : decode prog_21_method_1_code 6 = .ok (.putfield 7, 3) := by decide +kernel
theorem ow_32 {Z : State} {a0 : Array Value} (hw : ∀ d ∈ tables_1, d.before a0 Z = true) : (Jvm.Cond.fieldLink "com/example/portcrier/portcrier/engine/portmap/MappingChange" (7 : Nat) "com/example/portcrier/portcrier/engine/portmap/MappingChange" "set" "Z").before a0 Z = true := hw _ (List.mem_of_getElem? (i := 32) rfl)
theorem ow_33 {Z : State} {a0 : Array Value} (hw : ∀ d ∈ tables_1, d.before a0 Z = true) : (Jvm.Cond.laysFinal "com/example/portcrier/portcrier/engine/portmap/MappingChange" "com/example/portcrier/portcrier/engine/portmap/MappingChange" "set" "Z").before a0 Z = true := hw _ (List.mem_of_getElem? (i := 33) rfl)
theorem ow_5 {Z : State} {a0 : Array Value} (hw : ∀ d ∈ tables_1, d.before a0 Z = true) : (Jvm.Cond.instantiable "com/example/portcrier/portcrier/engine/portmap/MappingChange" (2 : Nat)).before a0 Z = true := hw _ (List.mem_of_getElem? (i := 5) rfl)
theorem od_prog_21_method_1_9 : decode prog_21_method_1_code 9 = .ok (.aload_n 0, 1) := by decide +kernel
theorem od_prog_21_method_1_10 : decode prog_21_method_1_code 10 = .ok (.aload_n 2, 1) := by decide +kernel
theorem od_prog_21_method_1_11 : decode prog_21_method_1_code 11 = .ok (.putfield 13, 3) := by decide +kernel
theorem ow_34 {Z : State} {a0 : Array Value} (hw : ∀ d ∈ tables_1, d.before a0 Z = true) : (Jvm.Cond.fieldLink "com/example/portcrier/portcrier/engine/portmap/MappingChange" (13 : Nat) "com/example/portcrier/portcrier/engine/portmap/MappingChange" "mapping" "Lcom/example/portcrier/portcrier/wire/portmap/Mapping;").before a0 Z = true := hw _ (List.mem_of_getElem? (i := 34) rfl)
theorem ow_35 {Z : State} {a0 : Array Value} (hw : ∀ d ∈ tables_1, d.before a0 Z = true) : (Jvm.Cond.laysFinal "com/example/portcrier/portcrier/engine/portmap/MappingChange" "com/example/portcrier/portcrier/engine/portmap/MappingChange" "mapping" "Lcom/example/portcrier/portcrier/wire/portmap/Mapping;").before a0 Z = true := hw _ (List.mem_of_getElem? (i := 35) rfl)
theorem osn_12 {Z : State} {a0 : Array Value} (hw : ∀ d ∈ tables_1, d.before a0 Z = true) : RoadKit.slotOf Z "com/example/portcrier/portcrier/engine/portmap/MappingChange" "mapping" "Lcom/example/portcrier/portcrier/wire/portmap/Mapping;" ≠ RoadKit.slotOf Z "com/example/portcrier/portcrier/engine/portmap/MappingChange" "set" "Z" := slot_ne (C := "com/example/portcrier/portcrier/engine/portmap/MappingChange") (Or.inr (ow_35 hw)) (Or.inr (ow_33 hw)) (by decide) (t := (.object "com/example/portcrier/portcrier/wire/portmap/Mapping")) (t' := .boolean) (by decide) (by decide)
theorem od_prog_21_method_1_14 : decode prog_21_method_1_code 14 = .ok (.return_, 1) := by decide +kernel
theorem osn_13 {Z : State} {a0 : Array Value} (hw : ∀ d ∈ tables_1, d.before a0 Z = true) : RoadKit.slotOf Z "com/example/portcrier/portcrier/engine/portmap/MappingChange" "set" "Z" ≠ RoadKit.slotOf Z "com/example/portcrier/portcrier/engine/portmap/MappingChange" "mapping" "Lcom/example/portcrier/portcrier/wire/portmap/Mapping;" := slot_ne (C := "com/example/portcrier/portcrier/engine/portmap/MappingChange") (Or.inr (ow_33 hw)) (Or.inr (ow_35 hw)) (by decide) (t := .boolean) (t' := (.object "com/example/portcrier/portcrier/wire/portmap/Mapping")) (by decide) (by decide)
theorem opn_com_example_portcrier_portcrier_engine_portmap_MappingChange : plainName "com/example/portcrier/portcrier/engine/portmap/MappingChange" = true := by first | (simp [plainName, overriddenIn]; done) | decide +kernel
theorem oef_rm_ci (m : MethodId) (ra : Addr) (rb : Addr) : entryFrame m #[(.ref ra), (.int (0 : Int32)), (.ref rb)] 3 = mkF m 0 #[.val (.ref ra), .val (.int (0 : Int32)), .val (.ref rb)] [] := by first | (simp [entryFrame, mkF, argsToLocals, Value.category]; done) | rfl
set_option maxRecDepth 65536 in
set_option maxHeartbeats 40000000 in
theorem rm_ci (l : Launch) (Z : State) (a0 : Array Value) (hw : ∀ d ∈ tables_1, d.before a0 Z = true) (ra : Addr) (rb : Addr) (w0 : Value) (w1 : Value) (h0 : Heap) (n0 : Nat) (Z0 : n0 ≤ h0.size) (P0 : Exa Z h0 ra "com/example/portcrier/portcrier/engine/portmap/MappingChange") (P1 : Fld Z h0 ra "com/example/portcrier/portcrier/engine/portmap/MappingChange" "set" "Z" (w0)) (P2 : Fld Z h0 ra "com/example/portcrier/portcrier/engine/portmap/MappingChange" "mapping" "Lcom/example/portcrier/portcrier/wire/portmap/Mapping;" (w1)) (g_ra : n0 ≤ ra) :
    own_M l Z (⟨"com/example/portcrier/portcrier/engine/portmap/MappingChange", "<init>", "(ZLcom/example/portcrier/portcrier/wire/portmap/Mapping;)V"⟩ : MethodName) prog_21_method_1_code 3 none [] ({ frames := 2, cells := 0, slots := 0, locals := 24 } : Room) #[(.ref ra), (.int (0 : Int32)), (.ref rb)] h0 (fun v h L => v = none ∧ Fr n0 L ∧ (Keep h0 h [ra]) ∧ (Fld Z h ra "com/example/portcrier/portcrier/engine/portmap/MappingChange" "set" "Z" (.int (0 : Int32))) ∧ (Fld Z h ra "com/example/portcrier/portcrier/engine/portmap/MappingChange" "mapping" "Lcom/example/portcrier/portcrier/wire/portmap/Mapping;" (.ref rb))) 0 0 := by
  refine own_body (plainFor_of_name opn_com_example_portcrier_portcrier_engine_portmap_MappingChange) ?_
  intro p e s m below meth c s1 hx hby hml hown hnm hret hlk hZ X0 e0
  rw [oef_rm_ci m ra rb]
  have N0 := Fr.nil n0
  refine own_aloadN X0 hx (hb hby od_prog_21_method_1_0) rfl rfl (pc' := 1) rfl ?_
  refine own_callC X0 hx hZ rfl hown (ow_31 hw) (ow_13 hw) (ow_15 hw) (ow_16 hw) (by decide) (rm_rec l Z a0 hw ra h0 n0 Z0) e0 (W := 0) (by decide) (by decide) opd___V rfl (rest := []) rfl (hb hby od_prog_21_method_1_1) (Nat.le_of_eq rfl) (by rw [hml]; rfl) (by decide) (by decide) (pc' := 4) rfl ?_
  intro v1 T1 L1 X1 q1
  obtain ⟨rfl, Nq1, eh1⟩ := q1
  have N1 := Fr.app N0 Nq1
  show own_G p e below s _ _ _ (T1.setTop (mkF m 4 #[.val (.ref ra), .val (.int (0 : Int32)), .val (.ref rb)] []))
  refine own_aloadN X1 hx (hb hby od_prog_21_method_1_4) rfl rfl (pc' := 5) rfl ?_
  refine own_iloadN X1 hx (hb hby od_prog_21_method_1_5) rfl (pc' := 6) rfl ?_
  refine own_putF X1 hx hZ hown (ow_32 hw) eh1 P1 P0 (Or.inr ⟨(ow_33 hw), rfl, hnm⟩) (ow_5 hw) (ty := .boolean) (by decide) rfl rfl (hb hby od_prog_21_method_1_6) (pc' := 9) rfl ?_
  intro T2 h2 X2 e2 W2
  have N2 := Fr.snoc X2 N1 g_ra
  refine own_aloadN X2 hx (hb hby od_prog_21_method_1_9) rfl rfl (pc' := 10) rfl ?_
  refine own_aloadN X2 hx (hb hby od_prog_21_method_1_10) rfl rfl (pc' := 11) rfl ?_
  have f3 : Fld Z h2 ra "com/example/portcrier/portcrier/engine/portmap/MappingChange" "mapping" "Lcom/example/portcrier/portcrier/wire/portmap/Mapping;" (w1) := (P2.other W2 (Or.inr (osn_12 hw)))
  have f4 : Exa Z h2 ra "com/example/portcrier/portcrier/engine/portmap/MappingChange" := (P0.wr W2)
  refine own_putF X2 hx hZ hown (ow_34 hw) e2 f3 f4 (Or.inr ⟨(ow_35 hw), rfl, hnm⟩) (ow_5 hw) (ty := (.object "com/example/portcrier/portcrier/wire/portmap/Mapping")) (by decide) rfl rfl (hb hby od_prog_21_method_1_11) (pc' := 14) rfl ?_
  intro T5 h5 X5 e5 W5
  have N5 := Fr.snoc X5 N2 g_ra
  have k8 : Keep h0 h5 [ra] := (Keep.wr (Keep.wr (Keep.refl _ _) W2 (Or.inl (List.mem_of_getElem? (i := 0) rfl))) W5 (Or.inl (List.mem_of_getElem? (i := 0) rfl)))
  have f9 : Fld Z h5 ra "com/example/portcrier/portcrier/engine/portmap/MappingChange" "set" "Z" (.int (0 : Int32)) := ((P1.same W2).other W5 (Or.inr (osn_13 hw)))
  exact own_retV X5 hx hret hlk (hb hby od_prog_21_method_1_14) ⟨rfl, N5, (by rw [e5]; exact k8), (by rw [e5]; exact f9), (by rw [e5]; exact (f3.same W5))⟩ (by decide) (by decide)
theorem od_prog_21_method_2_0 : decode prog_21_method_2_code 0 = .ok (.new 8, 3) := by decide +kernel
theorem ow_4 {Z : State} {a0 : Array Value} (hw : ∀ d ∈ tables_1, d.before a0 Z = true) : (Jvm.Cond.classLink "com/example/portcrier/portcrier/engine/portmap/MappingChange" (8 : Nat) "com/example/portcrier/portcrier/engine/portmap/MappingChange").before a0 Z = true := hw _ (List.mem_of_getElem? (i := 4) rfl)
theorem ow_2 {Z : State} {a0 : Array Value} (hw : ∀ d ∈ tables_1, d.before a0 Z = true) : (Jvm.Cond.initialized "com/example/portcrier/portcrier/engine/portmap/MappingChange").before a0 Z = true := hw _ (List.mem_of_getElem? (i := 2) rfl)
theorem od_prog_21_method_2_3 : decode prog_21_method_2_code 3 = .ok (.dup, 1) := by decide +kernel
theorem od_prog_21_method_2_4 : decode prog_21_method_2_code 4 = .ok (.iconst 0, 1) := by decide +kernel
theorem od_prog_21_method_2_5 : decode prog_21_method_2_code 5 = .ok (.new 17, 3) := by decide +kernel
theorem ow_6 {Z : State} {a0 : Array Value} (hw : ∀ d ∈ tables_1, d.before a0 Z = true) : (Jvm.Cond.classLink "com/example/portcrier/portcrier/engine/portmap/MappingChange" (17 : Nat) "com/example/portcrier/portcrier/wire/portmap/Mapping").before a0 Z = true := hw _ (List.mem_of_getElem? (i := 6) rfl)
theorem ow_8 {Z : State} {a0 : Array Value} (hw : ∀ d ∈ tables_1, d.before a0 Z = true) : (Jvm.Cond.initialized "com/example/portcrier/portcrier/wire/portmap/Mapping").before a0 Z = true := hw _ (List.mem_of_getElem? (i := 8) rfl)
theorem od_prog_21_method_2_8 : decode prog_21_method_2_code 8 = .ok (.dup, 1) := by decide +kernel
theorem od_prog_21_method_2_9 : decode prog_21_method_2_code 9 = .ok (.iload_n 0, 1) := by decide +kernel
theorem od_prog_21_method_2_10 : decode prog_21_method_2_code 10 = .ok (.iload_n 1, 1) := by decide +kernel
theorem od_prog_21_method_2_11 : decode prog_21_method_2_code 11 = .ok (.iconst 0, 1) := by decide +kernel
theorem od_prog_21_method_2_12 : decode prog_21_method_2_code 12 = .ok (.iconst 0, 1) := by decide +kernel
theorem od_prog_21_method_2_13 : decode prog_21_method_2_code 13 = .ok (.invokespecial 19, 3) := by decide +kernel
theorem ow_9 {Z : State} {a0 : Array Value} (hw : ∀ d ∈ tables_1, d.before a0 Z = true) : (Jvm.Cond.methodLink "com/example/portcrier/portcrier/engine/portmap/MappingChange" (19 : Nat) ({ cls := "com/example/portcrier/portcrier/wire/portmap/Mapping", name := "<init>", desc := "(IIII)V" } : Jvm.MethodName)).before a0 Z = true := hw _ (List.mem_of_getElem? (i := 9) rfl)
theorem opd__IIII_V : parseMethodDescriptor "(IIII)V" = some ⟨[.int, .int, .int, .int], none⟩ := by decide +kernel
theorem ow_10 {Z : State} {a0 : Array Value} (hw : ∀ d ∈ tables_1, d.before a0 Z = true) : (Jvm.Cond.instanceMethod ({ cls := "com/example/portcrier/portcrier/wire/portmap/Mapping", name := "<init>", desc := "(IIII)V" } : Jvm.MethodName)).before a0 Z = true := hw _ (List.mem_of_getElem? (i := 10) rfl)
theorem ow_11 {Z : State} {a0 : Array Value} (hw : ∀ d ∈ tables_1, d.before a0 Z = true) : (Jvm.Cond.code ({ cls := "com/example/portcrier/portcrier/wire/portmap/Mapping", name := "<init>", desc := "(IIII)V" } : Jvm.MethodName) prog_42_method_1_code (5 : Nat) (Option.none : Option Jvm.ClassFile.FieldType)).before a0 Z = true := hw _ (List.mem_of_getElem? (i := 11) rfl)
theorem od_prog_21_method_2_16 : decode prog_21_method_2_code 16 = .ok (.invokespecial 22, 3) := by decide +kernel
theorem ow_28 {Z : State} {a0 : Array Value} (hw : ∀ d ∈ tables_1, d.before a0 Z = true) : (Jvm.Cond.methodLink "com/example/portcrier/portcrier/engine/portmap/MappingChange" (22 : Nat) ({ cls := "com/example/portcrier/portcrier/engine/portmap/MappingChange", name := "<init>", desc := "(ZLcom/example/portcrier/portcrier/wire/portmap/Mapping;)V" } : Jvm.MethodName)).before a0 Z = true := hw _ (List.mem_of_getElem? (i := 28) rfl)
theorem opd__ZLcom_example_portcrier_portcrier_wire_portmap_Mapping__V : parseMethodDescriptor "(ZLcom/example/portcrier/portcrier/wire/portmap/Mapping;)V" = some ⟨[.boolean, (.object "com/example/portcrier/portcrier/wire/portmap/Mapping")], none⟩ := by decide +kernel
theorem ow_29 {Z : State} {a0 : Array Value} (hw : ∀ d ∈ tables_1, d.before a0 Z = true) : (Jvm.Cond.instanceMethod ({ cls := "com/example/portcrier/portcrier/engine/portmap/MappingChange", name := "<init>", desc := "(ZLcom/example/portcrier/portcrier/wire/portmap/Mapping;)V" } : Jvm.MethodName)).before a0 Z = true := hw _ (List.mem_of_getElem? (i := 29) rfl)
theorem ow_30 {Z : State} {a0 : Array Value} (hw : ∀ d ∈ tables_1, d.before a0 Z = true) : (Jvm.Cond.code ({ cls := "com/example/portcrier/portcrier/engine/portmap/MappingChange", name := "<init>", desc := "(ZLcom/example/portcrier/portcrier/wire/portmap/Mapping;)V" } : Jvm.MethodName) prog_21_method_1_code (3 : Nat) (Option.none : Option Jvm.ClassFile.FieldType)).before a0 Z = true := hw _ (List.mem_of_getElem? (i := 30) rfl)
theorem od_prog_21_method_2_19 : decode prog_21_method_2_code 19 = .ok (.areturn, 1) := by decide +kernel
theorem oef_rm_un (m : MethodId) (u0 : Int32) (u1 : Int32) : entryFrame m #[(.int u0), (.int u1)] 2 = mkF m 0 #[.val (.int u0), .val (.int u1)] [] := by first | (simp [entryFrame, mkF, argsToLocals, Value.category]; done) | rfl
set_option maxRecDepth 65536 in
set_option maxHeartbeats 40000000 in
theorem rm_un (l : Launch) (Z : State) (a0 : Array Value) (hw : ∀ d ∈ tables_1, d.before a0 Z = true) (u0 : Int32) (u1 : Int32) (h0 : Heap) (n0 : Nat) (Z0 : n0 ≤ h0.size)  :
    own_M l Z (⟨"com/example/portcrier/portcrier/engine/portmap/MappingChange", "unset", "(II)Lcom/example/portcrier/portcrier/engine/portmap/MappingChange;"⟩ : MethodName) prog_21_method_2_code 2 (some (.object "com/example/portcrier/portcrier/engine/portmap/MappingChange")) [] ({ frames := 3, cells := 2, slots := 6, locals := 44 } : Room) #[(.int u0), (.int u1)] h0 (fun v h L => ∃ rn rp : Addr, v = some (.ref rn) ∧ Fr n0 L ∧ (Keep h0 h []) ∧ (h0.size ≤ rn) ∧ (h0.size ≤ rp) ∧ (Exa Z h rn "com/example/portcrier/portcrier/engine/portmap/MappingChange") ∧ (Fld Z h rn "com/example/portcrier/portcrier/engine/portmap/MappingChange" "set" "Z" (.int (0 : Int32))) ∧ (Fld Z h rn "com/example/portcrier/portcrier/engine/portmap/MappingChange" "mapping" "Lcom/example/portcrier/portcrier/wire/portmap/Mapping;" (.ref rp)) ∧ (Exa Z h rp "com/example/portcrier/portcrier/wire/portmap/Mapping") ∧ (Fld Z h rp "com/example/portcrier/portcrier/wire/portmap/Mapping" "program" "I" (.int u0)) ∧ (Fld Z h rp "com/example/portcrier/portcrier/wire/portmap/Mapping" "version" "I" (.int u1)) ∧ (Fld Z h rp "com/example/portcrier/portcrier/wire/portmap/Mapping" "protocol" "I" (.int (0 : Int32))) ∧ (Fld Z h rp "com/example/portcrier/portcrier/wire/portmap/Mapping" "port" "I" (.int (0 : Int32)))) 2 6 := by
  refine own_body (plainFor_of_name opn_com_example_portcrier_portcrier_engine_portmap_MappingChange) ?_
  intro p e s m below meth c s1 hx hby hml hown hnm hret hlk hZ X0 e0
  rw [oef_rm_un m u0 u1]
  have N0 := Fr.nil n0
  refine own_new X0 hx hZ hown (ow_4 hw) (ow_5 hw) (ow_2 hw) e0 (hb hby od_prog_21_method_2_0) (pc' := 3) rfl (by decide) (by decide) ?_
  intro T1 h1 a1 g1 X1 e1 E1 A1 D1
  have ge_a1 : n0 ≤ a1 := by rw [g1]; exact Z0
  have gn_a1 : h0.size ≤ a1 := by rw [g1]; exact (Nat.le_refl _)
  have F1_set : Fld Z h1 a1 "com/example/portcrier/portcrier/engine/portmap/MappingChange" "set" "Z" (.int (0 : Int32)) := D1 (Or.inr (ow_33 hw)) (ty := .boolean) (by decide)
  have F1_mapping : Fld Z h1 a1 "com/example/portcrier/portcrier/engine/portmap/MappingChange" "mapping" "Lcom/example/portcrier/portcrier/wire/portmap/Mapping;" (.null) := D1 (Or.inr (ow_35 hw)) (ty := (.object "com/example/portcrier/portcrier/wire/portmap/Mapping")) (by decide)
  refine own_dup X1 hx (hb hby od_prog_21_method_2_3) rfl (pc' := 4) rfl ?_
  refine own_iconst X1 hx (hb hby od_prog_21_method_2_4) (z := (0 : Int32)) rfl (pc' := 5) rfl ?_
  have z3 : n0 ≤ h1.size := (Nat.le_trans Z0 E1.1)
  refine own_new X1 hx hZ hown (ow_6 hw) (ow_7 hw) (ow_8 hw) e1 (hb hby od_prog_21_method_2_5) (pc' := 8) rfl (by decide) (by decide) ?_
  intro T2 h2 a2 g2 X2 e2 E2 A2 D2
  have lt_a1_a2 : a1 < a2 := by rw [g2]; exact A1.lt
  have ge_a2 : n0 ≤ a2 := by rw [g2]; exact z3
  have gn_a2 : h0.size ≤ a2 := by rw [g2]; exact (Nat.le_trans (Nat.le_refl _) E1.1)
  have F2_program : Fld Z h2 a2 "com/example/portcrier/portcrier/wire/portmap/Mapping" "program" "I" (.int (0 : Int32)) := D2 (Or.inr (ow_21 hw)) (ty := .int) (by decide)
  have F2_version : Fld Z h2 a2 "com/example/portcrier/portcrier/wire/portmap/Mapping" "version" "I" (.int (0 : Int32)) := D2 (Or.inr (ow_23 hw)) (ty := .int) (by decide)
  have F2_protocol : Fld Z h2 a2 "com/example/portcrier/portcrier/wire/portmap/Mapping" "protocol" "I" (.int (0 : Int32)) := D2 (Or.inr (ow_25 hw)) (ty := .int) (by decide)
  have F2_port : Fld Z h2 a2 "com/example/portcrier/portcrier/wire/portmap/Mapping" "port" "I" (.int (0 : Int32)) := D2 (Or.inr (ow_27 hw)) (ty := .int) (by decide)
  refine own_dup X2 hx (hb hby od_prog_21_method_2_8) rfl (pc' := 9) rfl ?_
  refine own_iloadN X2 hx (hb hby od_prog_21_method_2_9) rfl (pc' := 10) rfl ?_
  refine own_iloadN X2 hx (hb hby od_prog_21_method_2_10) rfl (pc' := 11) rfl ?_
  refine own_iconst X2 hx (hb hby od_prog_21_method_2_11) (z := (0 : Int32)) rfl (pc' := 12) rfl ?_
  refine own_iconst X2 hx (hb hby od_prog_21_method_2_12) (z := (0 : Int32)) rfl (pc' := 13) rfl ?_
  have z5 : n0 ≤ h2.size := (Nat.le_trans z3 E2.1)
  refine own_callC X2 hx hZ rfl hown (ow_9 hw) (ow_10 hw) (ow_8 hw) (ow_11 hw) (by decide) (rm_mi l Z a0 hw a2 u0 u1 (0 : Int32) (0 : Int32) (.int (0 : Int32)) (.int (0 : Int32)) (.int (0 : Int32)) (.int (0 : Int32)) h2 n0 z5 A2 F2_program F2_version F2_protocol F2_port ge_a2) e2 (W := 4) (by decide) (by decide) opd__IIII_V rfl (rest := [(.ref a2), (.int (0 : Int32)), (.ref a1), (.ref a1)]) rfl (hb hby od_prog_21_method_2_13) (Nat.le_of_eq rfl) (by rw [hml]; rfl) (by decide) (by decide) (pc' := 16) rfl ?_
  intro v4 T4 L4 X4 q4
  obtain ⟨rfl, Nq4, K4, p4_0, p4_1, p4_2, p4_3⟩ := q4
  have N4 := Fr.app N0 Nq4
  show own_G p e below s _ _ _ (T4.setTop (mkF m 16 #[.val (.int u0), .val (.int u1)] [(.ref a2), (.int (0 : Int32)), (.ref a1), (.ref a1)]))
  have f7 : Exa Z T4.heap a1 "com/example/portcrier/portcrier/engine/portmap/MappingChange" := ((A1.ext E2).keep K4)
  have f8 : Fld Z T4.heap a1 "com/example/portcrier/portcrier/engine/portmap/MappingChange" "set" "Z" (.int (0 : Int32)) := ((F1_set.ext E2).keep K4 (ninS (Nat.ne_of_lt lt_a1_a2) nin0))
  have f9 : Fld Z T4.heap a1 "com/example/portcrier/portcrier/engine/portmap/MappingChange" "mapping" "Lcom/example/portcrier/portcrier/wire/portmap/Mapping;" (.null) := ((F1_mapping.ext E2).keep K4 (ninS (Nat.ne_of_lt lt_a1_a2) nin0))
  have z10 : n0 ≤ T4.heap.size := (Nat.le_trans z5 K4.1)
  refine own_callC X4 hx hZ rfl hown (ow_28 hw) (ow_29 hw) (ow_2 hw) (ow_30 hw) (by decide) (rm_ci l Z a0 hw a1 a2 (.int (0 : Int32)) .null T4.heap n0 z10 f7 f8 f9 ge_a1) rfl (W := 1) (by decide) (by decide) opd__ZLcom_example_portcrier_portcrier_wire_portmap_Mapping__V rfl (rest := [(.ref a1)]) rfl (hb hby od_prog_21_method_2_16) (Nat.le_of_eq rfl) (by rw [hml]; rfl) (by decide) (by decide) (pc' := 19) rfl ?_
  intro v6 T6 L6 X6 q6
  obtain ⟨rfl, Nq6, K6, p6_0, p6_1⟩ := q6
  have N6 := Fr.app N4 Nq6
  show own_G p e below s _ _ _ (T6.setTop (mkF m 19 #[.val (.int u0), .val (.int u1)] [(.ref a1)]))
  have k15 : Keep h0 T6.heap [] := (Keep.trans (Keep.trans (Keep.ext (Keep.ext (Keep.refl _ _) E1) E2) K4 (allS (Or.inr gn_a2) all0)) K6 (allS (Or.inr gn_a1) all0))
  have f16 : Exa Z T6.heap a1 "com/example/portcrier/portcrier/engine/portmap/MappingChange" := (f7.keep K6)
  have f17 : Exa Z T6.heap a2 "com/example/portcrier/portcrier/wire/portmap/Mapping" := ((A2.keep K4).keep K6)
  have f18 : Fld Z T6.heap a2 "com/example/portcrier/portcrier/wire/portmap/Mapping" "program" "I" (.int u0) := (p4_0.keep K6 (ninS (Nat.ne_of_gt lt_a1_a2) nin0))
  have f19 : Fld Z T6.heap a2 "com/example/portcrier/portcrier/wire/portmap/Mapping" "version" "I" (.int u1) := (p4_1.keep K6 (ninS (Nat.ne_of_gt lt_a1_a2) nin0))
  have f20 : Fld Z T6.heap a2 "com/example/portcrier/portcrier/wire/portmap/Mapping" "protocol" "I" (.int (0 : Int32)) := (p4_2.keep K6 (ninS (Nat.ne_of_gt lt_a1_a2) nin0))
  have f21 : Fld Z T6.heap a2 "com/example/portcrier/portcrier/wire/portmap/Mapping" "port" "I" (.int (0 : Int32)) := (p4_3.keep K6 (ninS (Nat.ne_of_gt lt_a1_a2) nin0))
  exact own_retA X6 hx hret hlk rfl rfl rfl (hb hby od_prog_21_method_2_19) ⟨a1, a2, rfl, N6, k15, gn_a1, gn_a2, f16, p6_0, p6_1, f17, f18, f19, f20, f21⟩ (by decide) (by decide)
theorem od_prog_21_method_6_0 : decode prog_21_method_6_code 0 = .ok (.aload_n 0, 1) := by decide +kernel
theorem od_prog_21_method_6_1 : decode prog_21_method_6_code 1 = .ok (.getfield 7, 3) := by decide +kernel
theorem od_prog_21_method_6_4 : decode prog_21_method_6_code 4 = .ok (.ireturn, 1) := by decide +kernel
theorem oef_rm_set (m : MethodId) (ra : Addr) : entryFrame m #[(.ref ra)] 1 = mkF m 0 #[.val (.ref ra)] [] := by first | (simp [entryFrame, mkF, argsToLocals, Value.category]; done) | rfl
set_option maxRecDepth 65536 in
set_option maxHeartbeats 40000000 in
theorem rm_set (l : Launch) (Z : State) (a0 : Array Value) (hw : ∀ d ∈ tables_1, d.before a0 Z = true) (ra : Addr) (h0 : Heap) (n0 : Nat) (Z0 : n0 ≤ h0.size) (P0 : Fld Z h0 ra "com/example/portcrier/portcrier/engine/portmap/MappingChange" "set" "Z" (.int (0 : Int32))) :
    own_M l Z (⟨"com/example/portcrier/portcrier/engine/portmap/MappingChange", "set", "()Z"⟩ : MethodName) prog_21_method_6_code 1 (some .boolean) [] ({ frames := 0, cells := 0, slots := 0, locals := 0 } : Room) #[(.ref ra)] h0 (fun v h L => v = some (.int (0 : Int32)) ∧ Fr n0 L ∧ (h = h0)) 0 0 := by
  refine own_body (plainFor_of_name opn_com_example_portcrier_portcrier_engine_portmap_MappingChange) ?_
  intro p e s m below meth c s1 hx hby hml hown hnm hret hlk hZ X0 e0
  rw [oef_rm_set m ra]
  have N0 := Fr.nil n0
  refine own_aloadN X0 hx (hb hby od_prog_21_method_6_0) rfl rfl (pc' := 1) rfl ?_
  refine own_getF X0 hx hZ hown (ow_32 hw) e0 P0 (hb hby od_prog_21_method_6_1) (pc' := 4) rfl ?_
  intro T1 X1 e1
  exact own_retZ X1 hx hret hlk (Or.inl rfl) (hb hby od_prog_21_method_6_4) ⟨rfl, N0, e1⟩ (by decide) (by decide)
theorem od_prog_21_method_7_0 : decode prog_21_method_7_code 0 = .ok (.aload_n 0, 1) := by decide +kernel
theorem od_prog_21_method_7_1 : decode prog_21_method_7_code 1 = .ok (.getfield 13, 3) := by decide +kernel
theorem od_prog_21_method_7_4 : decode prog_21_method_7_code 4 = .ok (.areturn, 1) := by decide +kernel
theorem oef_rm_map (m : MethodId) (ra : Addr) : entryFrame m #[(.ref ra)] 1 = mkF m 0 #[.val (.ref ra)] [] := by first | (simp [entryFrame, mkF, argsToLocals, Value.category]; done) | rfl
set_option maxRecDepth 65536 in
set_option maxHeartbeats 40000000 in
theorem rm_map (l : Launch) (Z : State) (a0 : Array Value) (hw : ∀ d ∈ tables_1, d.before a0 Z = true) (ra : Addr) (rb : Addr) (h0 : Heap) (n0 : Nat) (Z0 : n0 ≤ h0.size) (P0 : Fld Z h0 ra "com/example/portcrier/portcrier/engine/portmap/MappingChange" "mapping" "Lcom/example/portcrier/portcrier/wire/portmap/Mapping;" (.ref rb)) :
    own_M l Z (⟨"com/example/portcrier/portcrier/engine/portmap/MappingChange", "mapping", "()Lcom/example/portcrier/portcrier/wire/portmap/Mapping;"⟩ : MethodName) prog_21_method_7_code 1 (some (.object "com/example/portcrier/portcrier/wire/portmap/Mapping")) [] ({ frames := 0, cells := 0, slots := 0, locals := 0 } : Room) #[(.ref ra)] h0 (fun v h L => v = some (.ref rb) ∧ Fr n0 L ∧ (h = h0)) 0 0 := by
  refine own_body (plainFor_of_name opn_com_example_portcrier_portcrier_engine_portmap_MappingChange) ?_
  intro p e s m below meth c s1 hx hby hml hown hnm hret hlk hZ X0 e0
  rw [oef_rm_map m ra]
  have N0 := Fr.nil n0
  refine own_aloadN X0 hx (hb hby od_prog_21_method_7_0) rfl rfl (pc' := 1) rfl ?_
  refine own_getF X0 hx hZ hown (ow_34 hw) e0 P0 (hb hby od_prog_21_method_7_1) (pc' := 4) rfl ?_
  intro T1 X1 e1
  exact own_retA X1 hx hret hlk rfl rfl rfl (hb hby od_prog_21_method_7_4) ⟨rfl, N0, e1⟩ (by decide) (by decide)
theorem od_prog_42_method_10_0 : decode prog_42_method_10_code 0 = .ok (.aload_n 0, 1) := by decide +kernel
theorem od_prog_42_method_10_1 : decode prog_42_method_10_code 1 = .ok (.getfield 7, 3) := by decide +kernel
theorem od_prog_42_method_10_4 : decode prog_42_method_10_code 4 = .ok (.ireturn, 1) := by decide +kernel
theorem oef_rm_program (m : MethodId) (ra : Addr) : entryFrame m #[(.ref ra)] 1 = mkF m 0 #[.val (.ref ra)] [] := by first | (simp [entryFrame, mkF, argsToLocals, Value.category]; done) | rfl
set_option maxRecDepth 65536 in
set_option maxHeartbeats 40000000 in
theorem rm_program (l : Launch) (Z : State) (a0 : Array Value) (hw : ∀ d ∈ tables_1, d.before a0 Z = true) (ra : Addr) (u0 : Int32) (h0 : Heap) (n0 : Nat) (Z0 : n0 ≤ h0.size) (P0 : Fld Z h0 ra "com/example/portcrier/portcrier/wire/portmap/Mapping" "program" "I" (.int u0)) :
    own_M l Z (⟨"com/example/portcrier/portcrier/wire/portmap/Mapping", "program", "()I"⟩ : MethodName) prog_42_method_10_code 1 (some .int) [] ({ frames := 0, cells := 0, slots := 0, locals := 0 } : Room) #[(.ref ra)] h0 (fun v h L => v = some (.int u0) ∧ Fr n0 L ∧ (h = h0)) 0 0 := by
  refine own_body (plainFor_of_name opn_com_example_portcrier_portcrier_wire_portmap_Mapping) ?_
  intro p e s m below meth c s1 hx hby hml hown hnm hret hlk hZ X0 e0
  rw [oef_rm_program m ra]
  have N0 := Fr.nil n0
  refine own_aloadN X0 hx (hb hby od_prog_42_method_10_0) rfl rfl (pc' := 1) rfl ?_
  refine own_getF X0 hx hZ hown (ow_20 hw) e0 P0 (hb hby od_prog_42_method_10_1) (pc' := 4) rfl ?_
  intro T1 X1 e1
  exact own_retI X1 hx hret hlk (hb hby od_prog_42_method_10_4) ⟨rfl, N0, e1⟩ (by decide) (by decide)
theorem od_prog_42_method_11_0 : decode prog_42_method_11_code 0 = .ok (.aload_n 0, 1) := by decide +kernel
theorem od_prog_42_method_11_1 : decode prog_42_method_11_code 1 = .ok (.getfield 13, 3) := by decide +kernel
theorem od_prog_42_method_11_4 : decode prog_42_method_11_code 4 = .ok (.ireturn, 1) := by decide +kernel
theorem oef_rm_version (m : MethodId) (ra : Addr) : entryFrame m #[(.ref ra)] 1 = mkF m 0 #[.val (.ref ra)] [] := by first | (simp [entryFrame, mkF, argsToLocals, Value.category]; done) | rfl
set_option maxRecDepth 65536 in
set_option maxHeartbeats 40000000 in
theorem rm_version (l : Launch) (Z : State) (a0 : Array Value) (hw : ∀ d ∈ tables_1, d.before a0 Z = true) (ra : Addr) (u0 : Int32) (h0 : Heap) (n0 : Nat) (Z0 : n0 ≤ h0.size) (P0 : Fld Z h0 ra "com/example/portcrier/portcrier/wire/portmap/Mapping" "version" "I" (.int u0)) :
    own_M l Z (⟨"com/example/portcrier/portcrier/wire/portmap/Mapping", "version", "()I"⟩ : MethodName) prog_42_method_11_code 1 (some .int) [] ({ frames := 0, cells := 0, slots := 0, locals := 0 } : Room) #[(.ref ra)] h0 (fun v h L => v = some (.int u0) ∧ Fr n0 L ∧ (h = h0)) 0 0 := by
  refine own_body (plainFor_of_name opn_com_example_portcrier_portcrier_wire_portmap_Mapping) ?_
  intro p e s m below meth c s1 hx hby hml hown hnm hret hlk hZ X0 e0
  rw [oef_rm_version m ra]
  have N0 := Fr.nil n0
  refine own_aloadN X0 hx (hb hby od_prog_42_method_11_0) rfl rfl (pc' := 1) rfl ?_
  refine own_getF X0 hx hZ hown (ow_22 hw) e0 P0 (hb hby od_prog_42_method_11_1) (pc' := 4) rfl ?_
  intro T1 X1 e1
  exact own_retI X1 hx hret hlk (hb hby od_prog_42_method_11_4) ⟨rfl, N0, e1⟩ (by decide) (by decide)
theorem od_prog_42_method_12_0 : decode prog_42_method_12_code 0 = .ok (.aload_n 0, 1) := by decide +kernel
theorem od_prog_42_method_12_1 : decode prog_42_method_12_code 1 = .ok (.getfield 16, 3) := by decide +kernel
theorem od_prog_42_method_12_4 : decode prog_42_method_12_code 4 = .ok (.ireturn, 1) := by decide +kernel
theorem oef_rm_protocol (m : MethodId) (ra : Addr) : entryFrame m #[(.ref ra)] 1 = mkF m 0 #[.val (.ref ra)] [] := by first | (simp [entryFrame, mkF, argsToLocals, Value.category]; done) | rfl
set_option maxRecDepth 65536 in
set_option maxHeartbeats 40000000 in
theorem rm_protocol (l : Launch) (Z : State) (a0 : Array Value) (hw : ∀ d ∈ tables_1, d.before a0 Z = true) (ra : Addr) (u0 : Int32) (h0 : Heap) (n0 : Nat) (Z0 : n0 ≤ h0.size) (P0 : Fld Z h0 ra "com/example/portcrier/portcrier/wire/portmap/Mapping" "protocol" "I" (.int u0)) :
    own_M l Z (⟨"com/example/portcrier/portcrier/wire/portmap/Mapping", "protocol", "()I"⟩ : MethodName) prog_42_method_12_code 1 (some .int) [] ({ frames := 0, cells := 0, slots := 0, locals := 0 } : Room) #[(.ref ra)] h0 (fun v h L => v = some (.int u0) ∧ Fr n0 L ∧ (h = h0)) 0 0 := by
  refine own_body (plainFor_of_name opn_com_example_portcrier_portcrier_wire_portmap_Mapping) ?_
  intro p e s m below meth c s1 hx hby hml hown hnm hret hlk hZ X0 e0
  rw [oef_rm_protocol m ra]
  have N0 := Fr.nil n0
  refine own_aloadN X0 hx (hb hby od_prog_42_method_12_0) rfl rfl (pc' := 1) rfl ?_
  refine own_getF X0 hx hZ hown (ow_24 hw) e0 P0 (hb hby od_prog_42_method_12_1) (pc' := 4) rfl ?_
  intro T1 X1 e1
  exact own_retI X1 hx hret hlk (hb hby od_prog_42_method_12_4) ⟨rfl, N0, e1⟩ (by decide) (by decide)
theorem od_prog_42_method_13_0 : decode prog_42_method_13_code 0 = .ok (.aload_n 0, 1) := by decide +kernel
theorem od_prog_42_method_13_1 : decode prog_42_method_13_code 1 = .ok (.getfield 19, 3) := by decide +kernel
theorem od_prog_42_method_13_4 : decode prog_42_method_13_code 4 = .ok (.ireturn, 1) := by decide +kernel
theorem oef_rm_port (m : MethodId) (ra : Addr) : entryFrame m #[(.ref ra)] 1 = mkF m 0 #[.val (.ref ra)] [] := by first | (simp [entryFrame, mkF, argsToLocals, Value.category]; done) | rfl
set_option maxRecDepth 65536 in
set_option maxHeartbeats 40000000 in
theorem rm_port (l : Launch) (Z : State) (a0 : Array Value) (hw : ∀ d ∈ tables_1, d.before a0 Z = true) (ra : Addr) (u0 : Int32) (h0 : Heap) (n0 : Nat) (Z0 : n0 ≤ h0.size) (P0 : Fld Z h0 ra "com/example/portcrier/portcrier/wire/portmap/Mapping" "port" "I" (.int u0)) :
    own_M l Z (⟨"com/example/portcrier/portcrier/wire/portmap/Mapping", "port", "()I"⟩ : MethodName) prog_42_method_13_code 1 (some .int) [] ({ frames := 0, cells := 0, slots := 0, locals := 0 } : Room) #[(.ref ra)] h0 (fun v h L => v = some (.int u0) ∧ Fr n0 L ∧ (h = h0)) 0 0 := by
  refine own_body (plainFor_of_name opn_com_example_portcrier_portcrier_wire_portmap_Mapping) ?_
  intro p e s m below meth c s1 hx hby hml hown hnm hret hlk hZ X0 e0
  rw [oef_rm_port m ra]
  have N0 := Fr.nil n0
  refine own_aloadN X0 hx (hb hby od_prog_42_method_13_0) rfl rfl (pc' := 1) rfl ?_
  refine own_getF X0 hx hZ hown (ow_26 hw) e0 P0 (hb hby od_prog_42_method_13_1) (pc' := 4) rfl ?_
  intro T1 X1 e1
  exact own_retI X1 hx hret hlk (hb hby od_prog_42_method_13_4) ⟨rfl, N0, e1⟩ (by decide) (by decide)
theorem ow_0 {Z : State} {a0 : Array Value} (hw : ∀ d ∈ tables_1, d.before a0 Z = true) : (Jvm.Cond.methodLink "com/example/portcrier/portcrier/engine/portmap/MappingChangeUnsetPinLaw" (7 : Nat) ({ cls := "com/example/portcrier/portcrier/engine/portmap/MappingChange", name := "unset", desc := "(II)Lcom/example/portcrier/portcrier/engine/portmap/MappingChange;" } : Jvm.MethodName)).before a0 Z = true := hw _ (List.mem_of_getElem? (i := 0) rfl)
theorem opd__II_Lcom_example_portcrier_portcrier_engine_portmap_MappingChange_ : parseMethodDescriptor "(II)Lcom/example/portcrier/portcrier/engine/portmap/MappingChange;" = some ⟨[.int, .int], some (.object "com/example/portcrier/portcrier/engine/portmap/MappingChange")⟩ := by decide +kernel
theorem ow_1 {Z : State} {a0 : Array Value} (hw : ∀ d ∈ tables_1, d.before a0 Z = true) : (Jvm.Cond.static ({ cls := "com/example/portcrier/portcrier/engine/portmap/MappingChange", name := "unset", desc := "(II)Lcom/example/portcrier/portcrier/engine/portmap/MappingChange;" } : Jvm.MethodName)).before a0 Z = true := hw _ (List.mem_of_getElem? (i := 1) rfl)
theorem ow_3 {Z : State} {a0 : Array Value} (hw : ∀ d ∈ tables_1, d.before a0 Z = true) : (Jvm.Cond.code ({ cls := "com/example/portcrier/portcrier/engine/portmap/MappingChange", name := "unset", desc := "(II)Lcom/example/portcrier/portcrier/engine/portmap/MappingChange;" } : Jvm.MethodName) prog_21_method_2_code (2 : Nat) (Option.some (Jvm.ClassFile.FieldType.object "com/example/portcrier/portcrier/engine/portmap/MappingChange"))).before a0 Z = true := hw _ (List.mem_of_getElem? (i := 3) rfl)
theorem ow_36 {Z : State} {a0 : Array Value} (hw : ∀ d ∈ tables_1, d.before a0 Z = true) : (Jvm.Cond.methodLink "com/example/portcrier/portcrier/engine/portmap/MappingChangeUnsetPinLaw" (13 : Nat) ({ cls := "com/example/portcrier/portcrier/engine/portmap/MappingChange", name := "set", desc := "()Z" } : Jvm.MethodName)).before a0 Z = true := hw _ (List.mem_of_getElem? (i := 36) rfl)
theorem ow_39 {Z : State} {a0 : Array Value} (hw : ∀ d ∈ tables_1, d.before a0 Z = true) : (Jvm.Cond.selects "com/example/portcrier/portcrier/engine/portmap/MappingChange" ({ cls := "com/example/portcrier/portcrier/engine/portmap/MappingChange", name := "set", desc := "()Z" } : Jvm.MethodName) ({ cls := "com/example/portcrier/portcrier/engine/portmap/MappingChange", name := "set", desc := "()Z" } : Jvm.MethodName)).before a0 Z = true := hw _ (List.mem_of_getElem? (i := 39) rfl)
theorem opd___Z : parseMethodDescriptor "()Z" = some ⟨[], some .boolean⟩ := by decide +kernel
theorem ow_37 {Z : State} {a0 : Array Value} (hw : ∀ d ∈ tables_1, d.before a0 Z = true) : (Jvm.Cond.declares ({ cls := "com/example/portcrier/portcrier/engine/portmap/MappingChange", name := "set", desc := "()Z" } : Jvm.MethodName)).before a0 Z = true := hw _ (List.mem_of_getElem? (i := 37) rfl)
theorem ow_38 {Z : State} {a0 : Array Value} (hw : ∀ d ∈ tables_1, d.before a0 Z = true) : (Jvm.Cond.instanceMethod ({ cls := "com/example/portcrier/portcrier/engine/portmap/MappingChange", name := "set", desc := "()Z" } : Jvm.MethodName)).before a0 Z = true := hw _ (List.mem_of_getElem? (i := 38) rfl)
theorem ow_40 {Z : State} {a0 : Array Value} (hw : ∀ d ∈ tables_1, d.before a0 Z = true) : (Jvm.Cond.code ({ cls := "com/example/portcrier/portcrier/engine/portmap/MappingChange", name := "set", desc := "()Z" } : Jvm.MethodName) prog_21_method_6_code (1 : Nat) (Option.some Jvm.ClassFile.FieldType.boolean)).before a0 Z = true := hw _ (List.mem_of_getElem? (i := 40) rfl)
theorem ow_41 {Z : State} {a0 : Array Value} (hw : ∀ d ∈ tables_1, d.before a0 Z = true) : (Jvm.Cond.methodLink "com/example/portcrier/portcrier/engine/portmap/MappingChangeUnsetPinLaw" (17 : Nat) ({ cls := "com/example/portcrier/portcrier/engine/portmap/MappingChange", name := "mapping", desc := "()Lcom/example/portcrier/portcrier/wire/portmap/Mapping;" } : Jvm.MethodName)).before a0 Z = true := hw _ (List.mem_of_getElem? (i := 41) rfl)
theorem ow_44 {Z : State} {a0 : Array Value} (hw : ∀ d ∈ tables_1, d.before a0 Z = true) : (Jvm.Cond.selects "com/example/portcrier/portcrier/engine/portmap/MappingChange" ({ cls := "com/example/portcrier/portcrier/engine/portmap/MappingChange", name := "mapping", desc := "()Lcom/example/portcrier/portcrier/wire/portmap/Mapping;" } : Jvm.MethodName) ({ cls := "com/example/portcrier/portcrier/engine/portmap/MappingChange", name := "mapping", desc := "()Lcom/example/portcrier/portcrier/wire/portmap/Mapping;" } : Jvm.MethodName)).before a0 Z = true := hw _ (List.mem_of_getElem? (i := 44) rfl)
theorem opd___Lcom_example_portcrier_portcrier_wire_portmap_Mapping_ : parseMethodDescriptor "()Lcom/example/portcrier/portcrier/wire/portmap/Mapping;" = some ⟨[], some (.object "com/example/portcrier/portcrier/wire/portmap/Mapping")⟩ := by decide +kernel
theorem ow_42 {Z : State} {a0 : Array Value} (hw : ∀ d ∈ tables_1, d.before a0 Z = true) : (Jvm.Cond.declares ({ cls := "com/example/portcrier/portcrier/engine/portmap/MappingChange", name := "mapping", desc := "()Lcom/example/portcrier/portcrier/wire/portmap/Mapping;" } : Jvm.MethodName)).before a0 Z = true := hw _ (List.mem_of_getElem? (i := 42) rfl)
theorem ow_43 {Z : State} {a0 : Array Value} (hw : ∀ d ∈ tables_1, d.before a0 Z = true) : (Jvm.Cond.instanceMethod ({ cls := "com/example/portcrier/portcrier/engine/portmap/MappingChange", name := "mapping", desc := "()Lcom/example/portcrier/portcrier/wire/portmap/Mapping;" } : Jvm.MethodName)).before a0 Z = true := hw _ (List.mem_of_getElem? (i := 43) rfl)
theorem ow_45 {Z : State} {a0 : Array Value} (hw : ∀ d ∈ tables_1, d.before a0 Z = true) : (Jvm.Cond.code ({ cls := "com/example/portcrier/portcrier/engine/portmap/MappingChange", name := "mapping", desc := "()Lcom/example/portcrier/portcrier/wire/portmap/Mapping;" } : Jvm.MethodName) prog_21_method_7_code (1 : Nat) (Option.some (Jvm.ClassFile.FieldType.object "com/example/portcrier/portcrier/wire/portmap/Mapping"))).before a0 Z = true := hw _ (List.mem_of_getElem? (i := 45) rfl)
theorem ow_46 {Z : State} {a0 : Array Value} (hw : ∀ d ∈ tables_1, d.before a0 Z = true) : (Jvm.Cond.methodLink "com/example/portcrier/portcrier/engine/portmap/MappingChangeUnsetPinLaw" (21 : Nat) ({ cls := "com/example/portcrier/portcrier/wire/portmap/Mapping", name := "program", desc := "()I" } : Jvm.MethodName)).before a0 Z = true := hw _ (List.mem_of_getElem? (i := 46) rfl)
theorem ow_49 {Z : State} {a0 : Array Value} (hw : ∀ d ∈ tables_1, d.before a0 Z = true) : (Jvm.Cond.selects "com/example/portcrier/portcrier/wire/portmap/Mapping" ({ cls := "com/example/portcrier/portcrier/wire/portmap/Mapping", name := "program", desc := "()I" } : Jvm.MethodName) ({ cls := "com/example/portcrier/portcrier/wire/portmap/Mapping", name := "program", desc := "()I" } : Jvm.MethodName)).before a0 Z = true := hw _ (List.mem_of_getElem? (i := 49) rfl)
theorem opd___I : parseMethodDescriptor "()I" = some ⟨[], some .int⟩ := by decide +kernel
theorem ow_47 {Z : State} {a0 : Array Value} (hw : ∀ d ∈ tables_1, d.before a0 Z = true) : (Jvm.Cond.declares ({ cls := "com/example/portcrier/portcrier/wire/portmap/Mapping", name := "program", desc := "()I" } : Jvm.MethodName)).before a0 Z = true := hw _ (List.mem_of_getElem? (i := 47) rfl)
theorem ow_48 {Z : State} {a0 : Array Value} (hw : ∀ d ∈ tables_1, d.before a0 Z = true) : (Jvm.Cond.instanceMethod ({ cls := "com/example/portcrier/portcrier/wire/portmap/Mapping", name := "program", desc := "()I" } : Jvm.MethodName)).before a0 Z = true := hw _ (List.mem_of_getElem? (i := 48) rfl)
theorem ow_50 {Z : State} {a0 : Array Value} (hw : ∀ d ∈ tables_1, d.before a0 Z = true) : (Jvm.Cond.code ({ cls := "com/example/portcrier/portcrier/wire/portmap/Mapping", name := "program", desc := "()I" } : Jvm.MethodName) prog_42_method_10_code (1 : Nat) (Option.some Jvm.ClassFile.FieldType.int)).before a0 Z = true := hw _ (List.mem_of_getElem? (i := 50) rfl)
theorem ow_51 {Z : State} {a0 : Array Value} (hw : ∀ d ∈ tables_1, d.before a0 Z = true) : (Jvm.Cond.methodLink "com/example/portcrier/portcrier/engine/portmap/MappingChangeUnsetPinLaw" (27 : Nat) ({ cls := "com/example/portcrier/portcrier/wire/portmap/Mapping", name := "version", desc := "()I" } : Jvm.MethodName)).before a0 Z = true := hw _ (List.mem_of_getElem? (i := 51) rfl)
theorem ow_54 {Z : State} {a0 : Array Value} (hw : ∀ d ∈ tables_1, d.before a0 Z = true) : (Jvm.Cond.selects "com/example/portcrier/portcrier/wire/portmap/Mapping" ({ cls := "com/example/portcrier/portcrier/wire/portmap/Mapping", name := "version", desc := "()I" } : Jvm.MethodName) ({ cls := "com/example/portcrier/portcrier/wire/portmap/Mapping", name := "version", desc := "()I" } : Jvm.MethodName)).before a0 Z = true := hw _ (List.mem_of_getElem? (i := 54) rfl)
theorem ow_52 {Z : State} {a0 : Array Value} (hw : ∀ d ∈ tables_1, d.before a0 Z = true) : (Jvm.Cond.declares ({ cls := "com/example/portcrier/portcrier/wire/portmap/Mapping", name := "version", desc := "()I" } : Jvm.MethodName)).before a0 Z = true := hw _ (List.mem_of_getElem? (i := 52) rfl)
theorem ow_53 {Z : State} {a0 : Array Value} (hw : ∀ d ∈ tables_1, d.before a0 Z = true) : (Jvm.Cond.instanceMethod ({ cls := "com/example/portcrier/portcrier/wire/portmap/Mapping", name := "version", desc := "()I" } : Jvm.MethodName)).before a0 Z = true := hw _ (List.mem_of_getElem? (i := 53) rfl)
theorem ow_55 {Z : State} {a0 : Array Value} (hw : ∀ d ∈ tables_1, d.before a0 Z = true) : (Jvm.Cond.code ({ cls := "com/example/portcrier/portcrier/wire/portmap/Mapping", name := "version", desc := "()I" } : Jvm.MethodName) prog_42_method_11_code (1 : Nat) (Option.some Jvm.ClassFile.FieldType.int)).before a0 Z = true := hw _ (List.mem_of_getElem? (i := 55) rfl)
theorem ow_56 {Z : State} {a0 : Array Value} (hw : ∀ d ∈ tables_1, d.before a0 Z = true) : (Jvm.Cond.methodLink "com/example/portcrier/portcrier/engine/portmap/MappingChangeUnsetPinLaw" (30 : Nat) ({ cls := "com/example/portcrier/portcrier/wire/portmap/Mapping", name := "protocol", desc := "()I" } : Jvm.MethodName)).before a0 Z = true := hw _ (List.mem_of_getElem? (i := 56) rfl)
theorem ow_59 {Z : State} {a0 : Array Value} (hw : ∀ d ∈ tables_1, d.before a0 Z = true) : (Jvm.Cond.selects "com/example/portcrier/portcrier/wire/portmap/Mapping" ({ cls := "com/example/portcrier/portcrier/wire/portmap/Mapping", name := "protocol", desc := "()I" } : Jvm.MethodName) ({ cls := "com/example/portcrier/portcrier/wire/portmap/Mapping", name := "protocol", desc := "()I" } : Jvm.MethodName)).before a0 Z = true := hw _ (List.mem_of_getElem? (i := 59) rfl)
theorem ow_57 {Z : State} {a0 : Array Value} (hw : ∀ d ∈ tables_1, d.before a0 Z = true) : (Jvm.Cond.declares ({ cls := "com/example/portcrier/portcrier/wire/portmap/Mapping", name := "protocol", desc := "()I" } : Jvm.MethodName)).before a0 Z = true := hw _ (List.mem_of_getElem? (i := 57) rfl)
theorem ow_58 {Z : State} {a0 : Array Value} (hw : ∀ d ∈ tables_1, d.before a0 Z = true) : (Jvm.Cond.instanceMethod ({ cls := "com/example/portcrier/portcrier/wire/portmap/Mapping", name := "protocol", desc := "()I" } : Jvm.MethodName)).before a0 Z = true := hw _ (List.mem_of_getElem? (i := 58) rfl)
theorem ow_60 {Z : State} {a0 : Array Value} (hw : ∀ d ∈ tables_1, d.before a0 Z = true) : (Jvm.Cond.code ({ cls := "com/example/portcrier/portcrier/wire/portmap/Mapping", name := "protocol", desc := "()I" } : Jvm.MethodName) prog_42_method_12_code (1 : Nat) (Option.some Jvm.ClassFile.FieldType.int)).before a0 Z = true := hw _ (List.mem_of_getElem? (i := 60) rfl)
theorem ow_61 {Z : State} {a0 : Array Value} (hw : ∀ d ∈ tables_1, d.before a0 Z = true) : (Jvm.Cond.methodLink "com/example/portcrier/portcrier/engine/portmap/MappingChangeUnsetPinLaw" (33 : Nat) ({ cls := "com/example/portcrier/portcrier/wire/portmap/Mapping", name := "port", desc := "()I" } : Jvm.MethodName)).before a0 Z = true := hw _ (List.mem_of_getElem? (i := 61) rfl)
theorem ow_64 {Z : State} {a0 : Array Value} (hw : ∀ d ∈ tables_1, d.before a0 Z = true) : (Jvm.Cond.selects "com/example/portcrier/portcrier/wire/portmap/Mapping" ({ cls := "com/example/portcrier/portcrier/wire/portmap/Mapping", name := "port", desc := "()I" } : Jvm.MethodName) ({ cls := "com/example/portcrier/portcrier/wire/portmap/Mapping", name := "port", desc := "()I" } : Jvm.MethodName)).before a0 Z = true := hw _ (List.mem_of_getElem? (i := 64) rfl)
theorem ow_62 {Z : State} {a0 : Array Value} (hw : ∀ d ∈ tables_1, d.before a0 Z = true) : (Jvm.Cond.declares ({ cls := "com/example/portcrier/portcrier/wire/portmap/Mapping", name := "port", desc := "()I" } : Jvm.MethodName)).before a0 Z = true := hw _ (List.mem_of_getElem? (i := 62) rfl)
theorem ow_63 {Z : State} {a0 : Array Value} (hw : ∀ d ∈ tables_1, d.before a0 Z = true) : (Jvm.Cond.instanceMethod ({ cls := "com/example/portcrier/portcrier/wire/portmap/Mapping", name := "port", desc := "()I" } : Jvm.MethodName)).before a0 Z = true := hw _ (List.mem_of_getElem? (i := 63) rfl)
theorem ow_65 {Z : State} {a0 : Array Value} (hw : ∀ d ∈ tables_1, d.before a0 Z = true) : (Jvm.Cond.code ({ cls := "com/example/portcrier/portcrier/wire/portmap/Mapping", name := "port", desc := "()I" } : Jvm.MethodName) prog_42_method_13_code (1 : Nat) (Option.some Jvm.ClassFile.FieldType.int)).before a0 Z = true := hw _ (List.mem_of_getElem? (i := 65) rfl)
theorem opn_com_example_portcrier_portcrier_engine_portmap_MappingChangeUnsetPinLaw : plainName "com/example/portcrier/portcrier/engine/portmap/MappingChangeUnsetPinLaw" = true := by first | (simp [plainName, overriddenIn]; done) | decide +kernel
theorem oef_law (m : MethodId) (u0 : Int32) (u1 : Int32) : entryFrame m #[(.int u0), (.int u1)] maxLocals = mkF m 0 #[.val (.int u0), .val (.int u1), .unset, .unset] [] := by first | (simp [entryFrame, mkF, argsToLocals, Value.category, maxLocals]; done) | rfl
set_option maxRecDepth 65536 in
set_option maxHeartbeats 40000000 in
theorem own_law (l : Launch) (Z : State) (a0 : Array Value) (hw : ∀ d ∈ tables_1, d.before a0 Z = true) (u0 : Int32) (u1 : Int32) (h0 : Heap) (n0 : Nat) (Z0 : n0 ≤ h0.size) :
    own_M l Z x code maxLocals ret tables_1 room_1 #[(.int u0), (.int u1)] h0 (fun v h L => v = some (.int 1) ∧ Fr n0 L) 2 6 := by
  refine own_body (plainFor_of_name opn_com_example_portcrier_portcrier_engine_portmap_MappingChangeUnsetPinLaw) ?_
  intro p e s m below meth c s1 hx hby hml' hown hnm hret hlk hZ X0 e0
  have hml : c.maxLocals = 4 := hml'
  rw [oef_law m u0 u1]
  have N0 := Fr.nil n0
  refine own_iloadN X0 hx (hb hby at_0) rfl (pc' := 1) rfl ?_
  refine own_iloadN X0 hx (hb hby at_1) rfl (pc' := 2) rfl ?_
  refine own_callS X0 hx hZ hown (ow_0 hw) (ow_1 hw) (ow_2 hw) (ow_3 hw) (by decide) (rm_un l Z a0 hw u0 u1 h0 n0 Z0) e0 (W := 0) (by decide) (by decide) opd__II_Lcom_example_portcrier_portcrier_engine_portmap_MappingChange_ rfl (rest := []) rfl (hb hby at_2) (Nat.le_of_eq rfl) (by rw [hml]; rfl) (by decide) (by decide) (pc' := 5) rfl ?_
  intro v1 T1 L1 X1 q1
  obtain ⟨rn_1, rp_1, rfl, Nq1, K1, gz1_rn_1, gz1_rp_1, p1_0, p1_1, p1_2, p1_3, p1_4, p1_5, p1_6, p1_7⟩ := q1
  have ge_rn_1 : n0 ≤ rn_1 := Nat.le_trans Z0 gz1_rn_1
  have ge_rp_1 : n0 ≤ rp_1 := Nat.le_trans Z0 gz1_rp_1
  have N1 := Fr.app N0 Nq1
  show own_G p e below s _ _ _ (T1.setTop (mkF m 5 #[.val (.int u0), .val (.int u1), .unset, .unset] [(.ref rn_1)]))
  refine own_astoreN X1 hx (hb hby at_5) rfl (l' := #[.val (.int u0), .val (.int u1), .val (.ref rn_1), .unset]) rfl (pc' := 6) rfl ?_
  refine own_aloadN X1 hx (hb hby at_6) rfl rfl (pc' := 7) rfl ?_
  refine own_ifnonnullT X1 hx (hb hby at_7) (by decide) (pc' := 12) rfl ?_
  refine own_aloadN X1 hx (hb hby at_12) rfl rfl (pc' := 13) rfl ?_
  have z3 : n0 ≤ T1.heap.size := (Nat.le_trans Z0 K1.1)
  refine own_callV X1 hx hZ hown (ow_36 hw) (ow_37 hw) (ow_39 hw) (ow_38 hw) (ow_2 hw) (ow_40 hw) (by decide) p1_0 (rm_set l Z a0 hw rn_1 T1.heap n0 z3 p1_1) rfl (W := 0) (by decide) (by decide) opd___Z rfl (rest := []) rfl (hb hby at_13) (Nat.le_of_eq rfl) (by rw [hml]; rfl) (by decide) (by decide) (pc' := 16) rfl ?_
  intro v2 T2 L2 X2 q2
  obtain ⟨rfl, Nq2, eh2⟩ := q2
  have N2 := Fr.app N1 Nq2
  show own_G p e below s _ _ _ (T2.setTop (mkF m 16 #[.val (.int u0), .val (.int u1), .val (.ref rn_1), .unset] [(.int (0 : Int32))]))
  refine own_ifT X2 hx (hb hby at_16) (by decide) (by decide) (pc' := 21) rfl ?_
  refine own_aloadN X2 hx (hb hby at_21) rfl rfl (pc' := 22) rfl ?_
  refine own_callV X2 hx hZ hown (ow_41 hw) (ow_42 hw) (ow_44 hw) (ow_43 hw) (ow_2 hw) (ow_45 hw) (by decide) p1_0 (rm_map l Z a0 hw rn_1 rp_1 T1.heap n0 z3 p1_2) eh2 (W := 0) (by decide) (by decide) opd___Lcom_example_portcrier_portcrier_wire_portmap_Mapping_ rfl (rest := []) rfl (hb hby at_22) (Nat.le_of_eq rfl) (by rw [hml]; rfl) (by decide) (by decide) (pc' := 25) rfl ?_
  intro v4 T4 L4 X4 q4
  obtain ⟨rfl, Nq4, eh4⟩ := q4
  have N4 := Fr.app N2 Nq4
  show own_G p e below s _ _ _ (T4.setTop (mkF m 25 #[.val (.int u0), .val (.int u1), .val (.ref rn_1), .unset] [(.ref rp_1)]))
  refine own_astoreN X4 hx (hb hby at_25) rfl (l' := #[.val (.int u0), .val (.int u1), .val (.ref rn_1), .val (.ref rp_1)]) rfl (pc' := 26) rfl ?_
  refine own_aloadN X4 hx (hb hby at_26) rfl rfl (pc' := 27) rfl ?_
  refine own_ifnonnullT X4 hx (hb hby at_27) (by decide) (pc' := 32) rfl ?_
  refine own_aloadN X4 hx (hb hby at_32) rfl rfl (pc' := 33) rfl ?_
  refine own_callV X4 hx hZ hown (ow_46 hw) (ow_47 hw) (ow_49 hw) (ow_48 hw) (ow_8 hw) (ow_50 hw) (by decide) p1_3 (rm_program l Z a0 hw rp_1 u0 T1.heap n0 z3 p1_4) eh4 (W := 0) (by decide) (by decide) opd___I rfl (rest := []) rfl (hb hby at_33) (Nat.le_of_eq rfl) (by rw [hml]; rfl) (by decide) (by decide) (pc' := 36) rfl ?_
  intro v5 T5 L5 X5 q5
  obtain ⟨rfl, Nq5, eh5⟩ := q5
  have N5 := Fr.app N4 Nq5
  show own_G p e below s _ _ _ (T5.setTop (mkF m 36 #[.val (.int u0), .val (.int u1), .val (.ref rn_1), .val (.ref rp_1)] [(.int u0)]))
  refine own_iloadN X5 hx (hb hby at_36) rfl (pc' := 37) rfl ?_
  refine own_icmpF X5 hx (hb hby at_37) (teq rfl).2 (pc' := 40) rfl ?_
  refine own_aloadN X5 hx (hb hby at_40) rfl rfl (pc' := 41) rfl ?_
  refine own_callV X5 hx hZ hown (ow_51 hw) (ow_52 hw) (ow_54 hw) (ow_53 hw) (ow_8 hw) (ow_55 hw) (by decide) p1_3 (rm_version l Z a0 hw rp_1 u1 T1.heap n0 z3 p1_5) eh5 (W := 0) (by decide) (by decide) opd___I rfl (rest := []) rfl (hb hby at_41) (Nat.le_of_eq rfl) (by rw [hml]; rfl) (by decide) (by decide) (pc' := 44) rfl ?_
  intro v6 T6 L6 X6 q6
  obtain ⟨rfl, Nq6, eh6⟩ := q6
  have N6 := Fr.app N5 Nq6
  show own_G p e below s _ _ _ (T6.setTop (mkF m 44 #[.val (.int u0), .val (.int u1), .val (.ref rn_1), .val (.ref rp_1)] [(.int u1)]))
  refine own_iloadN X6 hx (hb hby at_44) rfl (pc' := 45) rfl ?_
  refine own_icmpF X6 hx (hb hby at_45) (teq rfl).2 (pc' := 48) rfl ?_
  refine own_aloadN X6 hx (hb hby at_48) rfl rfl (pc' := 49) rfl ?_
  refine own_callV X6 hx hZ hown (ow_56 hw) (ow_57 hw) (ow_59 hw) (ow_58 hw) (ow_8 hw) (ow_60 hw) (by decide) p1_3 (rm_protocol l Z a0 hw rp_1 (0 : Int32) T1.heap n0 z3 p1_6) eh6 (W := 0) (by decide) (by decide) opd___I rfl (rest := []) rfl (hb hby at_49) (Nat.le_of_eq rfl) (by rw [hml]; rfl) (by decide) (by decide) (pc' := 52) rfl ?_
  intro v7 T7 L7 X7 q7
  obtain ⟨rfl, Nq7, eh7⟩ := q7
  have N7 := Fr.app N6 Nq7
  show own_G p e below s _ _ _ (T7.setTop (mkF m 52 #[.val (.int u0), .val (.int u1), .val (.ref rn_1), .val (.ref rp_1)] [(.int (0 : Int32))]))
  refine own_ifF X7 hx (hb hby at_52) (by decide) (pc' := 55) rfl ?_
  refine own_aloadN X7 hx (hb hby at_55) rfl rfl (pc' := 56) rfl ?_
  refine own_callV X7 hx hZ hown (ow_61 hw) (ow_62 hw) (ow_64 hw) (ow_63 hw) (ow_8 hw) (ow_65 hw) (by decide) p1_3 (rm_port l Z a0 hw rp_1 (0 : Int32) T1.heap n0 z3 p1_7) eh7 (W := 0) (by decide) (by decide) opd___I rfl (rest := []) rfl (hb hby at_56) (Nat.le_of_eq rfl) (by rw [hml]; rfl) (by decide) (by decide) (pc' := 59) rfl ?_
  intro v8 T8 L8 X8 q8
  obtain ⟨rfl, Nq8, eh8⟩ := q8
  have N8 := Fr.app N7 Nq8
  show own_G p e below s _ _ _ (T8.setTop (mkF m 59 #[.val (.int u0), .val (.int u1), .val (.ref rn_1), .val (.ref rp_1)] [(.int (0 : Int32))]))
  refine own_ifF X8 hx (hb hby at_59) (by decide) (pc' := 62) rfl ?_
  refine own_iconst X8 hx (hb hby at_62) (z := (1 : Int32)) rfl (pc' := 63) rfl ?_
  refine own_goto X8 hx (hb hby at_63) (by decide) (pc' := 67) rfl ?_
  exact own_retZ X8 hx hret hlk (Or.inr rfl) (hb hby at_67) ⟨rfl, N8⟩ (by decide) (by decide)
set_option maxRecDepth 65536 in
set_option maxHeartbeats 40000000 in
theorem comes_1 {Post : Tables → Env → Array Value → State → Outcome → State → Prop} (hpost : ∀ tb e args s v u, (limb_1_1.after args s (.returned v) u = true ∧ limb_1_2.after args s (.returned v) u = true ∧ True) → FrameEnd s (.returned v) u (Jvm.fieldLocs frame_1_writes args s ++ Jvm.arrayLocs frame_1_arrays args s ++ Jvm.staticLocs frame_1_statics s) 16 128 → Post tb e args s (.returned v) u) :
    ArmFor flags0 classFile x code maxLocals ret World_1 tables_1 room_1 Calls_1 rest_1 Pre_1 Post := by
  intro l hfl _ _ p e ha hc hk s m args below hf hA hF happ hP
  obtain ⟨hcalls, hrest, hpre⟩ := hP
  obtain ⟨-, -, -, hnamed, -, -, -, hat⟩ := (Spec.applies_iff hf).mp happ
  obtain ⟨hg, hn⟩ := and_e (Cond.before_iff.mp (show (Jvm.Cond.and given_1 narrow_1).before args s = true from hpre))
  obtain ⟨gc, gr0⟩ := and_e hg
  obtain ⟨gk0, gr1⟩ := and_e gr0
  obtain ⟨w0, w1, rfl⟩ : ∃ w0 w1 : Value, args = #[w0, w1] := by
    have hs : args.size = 2 := by simpa [Cond.value, given_1] using gc
    obtain ⟨L⟩ := args
    match L, hs with
    | [w0, w1], _ => exact ⟨w0, w1, rfl⟩
  have hw := fun d (hd : d ∈ tables_1) => atoms_spec (ws := Jvm.Cond.code x code maxLocals ret :: tables_1) hat d (List.mem_cons_of_mem _ hd)
  obtain ⟨i0, ei0⟩ := is_v gk0
  obtain rfl : w0 = (.int i0) := Option.some.inj ei0
  obtain ⟨i1, ei1⟩ := is_v gr1
  obtain rfl : w1 = (.int i1) := Option.some.inj ei1
  obtain ⟨n, o, h1, h2, h3, _, L, rfl, ⟨rfl, N⟩, hq⟩ := own_law l s _ hw i0 i1 s.heap s.heap.size (Nat.le_refl _) p e ha hc hk s m _ below hf ((Spec.applies_iff_loose hf).mp happ).1 ⟨rfl, State.Warmed39.refl s, rfl⟩ trivial
  refine ⟨n, _, h1, h2, h3, hpost _ _ _ _ _ _ ⟨Cond.after_iff.mpr rfl, Cond.after_iff.mpr (eq_i res_at (Term.int_eval (1)) rfl), trivial⟩ ⟨hq.1, hq.2.1, (hq.2.2.sift fun y hy => Or.inr (N y hy)).mono (by decide) (by decide)⟩⟩
theorem main_1_1 : Claimed_1_1 := comes_1 fun _ _ _ _ _ _ h hF => ⟨h.1, hF⟩
theorem main_1_2 : Claimed_1_2 := comes_1 fun _ _ _ _ _ _ h hF => ⟨h.2.1, hF⟩
end Jvm.Pilot.@@N@@
namespace Jvm.Pilot.@@N@@
open Jvm Jvm.ClassFile Sem Op Lib Jvm.Free Jvm.Stand Jvm.Pilot.@@N@@.Jvm.D
/-! MADE BY PROGRAM (witnessworld.py) out of the Statement's table words and the real class files: 11 classes; the members and pool entries that the words name. The judged class is class 1, her method 1. -/
namespace start1
open Jvm.ClassFile
def u (s : String) : CpInfo := .utf8 (stringToUtf16 s)
/-- a pool by its gaps: so many unusable entries, then the entry; so many at the end -/
def gap : Nat → List CpInfo → List CpInfo
  | 0, r => r
  | n + 1, r => .unusable :: gap n r
def poolList (es : List (Nat × CpInfo)) (last : Nat) : List CpInfo := es.foldr (fun e r => gap e.1 (e.2 :: r)) (gap last [])
def pool (es : List (Nat × CpInfo)) (last : Nat) : Array CpInfo := ⟨poolList es last⟩
def fileOf (pool : Array CpInfo) (this : Nat) (attrs : Array Attribute := #[]) (ms : Array MethodInfo := #[]) (fl : Nat := 33) (sup : Nat := 0) (ifs : Array Nat := #[]) (fds : Array FieldInfo := #[]) : ClassFile where
  minorVersion := 0
  majorVersion := 65
  constantPool := pool
  accessFlags := fl
  thisClass := this
  superClass := sup
  interfaces := ifs
  fields := fds
  methods := ms
  attributes := attrs
def plain (name : String) (sup : Option ClassId) : Class where
  name := name
  kind := .ordinary
  loader := none
  accessFlags := 33
  super := sup
  interfaces := #[]
  cf := none
  fields := #[]
  methods := #[]
  instanceTypes := #[]
  staticTypes := #[]
  resolved := #[]
  callSites := []
  init := .initialized
  statics := none
  mirror := none

def pool0 : Array CpInfo := pool [(5, u "<init>"), (0, u "()V"), (1, .class_ 10), (1, u "java/lang/Object")] 113

def k0c0 : Code := { maxStack := 0, maxLocals := 1, code := object_method_1_code, exceptionTable := #[], attributes := #[] }
def k0m0 : Method := { name := "<init>", desc := "()V", sig := { parameters := [], returnType := none }, accessFlags := 1, code := some k0c0 }
/-- java/lang/Object -/
def k0 : Class := { plain "java/lang/Object" none with
  accessFlags := 33
  interfaces := #[]
  cf := some (fileOf pool0 8 #[] #[{ accessFlags := 1, nameIndex := 5, descriptorIndex := 6, attributes := #[] }] 33 0 #[] #[])
  fields := #[]
  methods := #[k0m0]
  instanceTypes := #[]
  staticTypes := #[]
  resolved := Array.replicate 124 none
  statics := none }

def pool1 : Array CpInfo := pool [(2, .class_ 4), (1, u "java/lang/Object"), (0, u "<init>"), (0, u "()V"), (0, .methodref 8 9), (0, .class_ 10), (0, .nameAndType 11 12), (0, u "com/example/portcrier/portcrier/engine/portmap/MappingChange"), (0, u "unset"), (0, u "(II)Lcom/example/portcrier/portcrier/engine/portmap/MappingChange;"), (0, .methodref 8 14), (0, .nameAndType 15 16), (0, u "set"), (0, u "()Z"), (0, .methodref 8 18), (0, .nameAndType 19 20), (0, u "mapping"), (0, u "()Lcom/example/portcrier/portcrier/wire/portmap/Mapping;"), (0, .methodref 22 23), (0, .class_ 24), (0, .nameAndType 25 26), (0, u "com/example/portcrier/portcrier/wire/portmap/Mapping"), (0, u "program"), (0, u "()I"), (0, .methodref 22 28), (0, .nameAndType 29 26), (0, u "version"), (0, .methodref 22 31), (0, .nameAndType 32 26), (0, u "protocol"), (0, .methodref 22 34), (0, .nameAndType 35 26), (0, u "port"), (0, .class_ 37), (0, u "com/example/portcrier/portcrier/engine/portmap/MappingChangeUnsetPinLaw"), (2, u "law"), (0, u "(II)Z")] 3

def k1m0 : Method := { name := "<init>", desc := "()V", sig := { parameters := [], returnType := none }, accessFlags := 2, code := none }
def k1c1 : Code := { maxStack := 2, maxLocals := 4, code := code, exceptionTable := #[], attributes := #[] }
def k1m1 : Method := { name := "law", desc := "(II)Z", sig := { parameters := [.int, .int], returnType := some .boolean }, accessFlags := 9, code := some k1c1 }
/-- com/example/portcrier/portcrier/engine/portmap/MappingChangeUnsetPinLaw -/
def k1 : Class := { plain "com/example/portcrier/portcrier/engine/portmap/MappingChangeUnsetPinLaw" (some 0) with
  accessFlags := 49
  interfaces := #[]
  cf := some (fileOf pool1 36 #[] #[{ accessFlags := 2, nameIndex := 5, descriptorIndex := 6, attributes := #[] }, { accessFlags := 9, nameIndex := 40, descriptorIndex := 41, attributes := #[] }] 49 2 #[] #[])
  fields := #[]
  methods := #[k1m0, k1m1]
  instanceTypes := #[]
  staticTypes := #[]
  resolved := Array.replicate 45 none
  statics := none }

def pool2 : Array CpInfo := pool [(1, .methodref 2 3), (0, .class_ 4), (0, .nameAndType 5 6), (0, u "java/lang/Object"), (0, u "<init>"), (0, u "()V"), (0, .class_ 8), (0, u "java/lang/Record")] 13

def k2c0 : Code := { maxStack := 1, maxLocals := 1, code := jdk_30_method_1_code, exceptionTable := #[], attributes := #[] }
def k2m0 : Method := { name := "<init>", desc := "()V", sig := { parameters := [], returnType := none }, accessFlags := 4, code := some k2c0 }
/-- java/lang/Record -/
def k2 : Class := { plain "java/lang/Record" (some 0) with
  accessFlags := 1057
  interfaces := #[]
  cf := some (fileOf pool2 7 #[] #[{ accessFlags := 4, nameIndex := 5, descriptorIndex := 6, attributes := #[] }] 1057 2 #[] #[])
  fields := #[]
  methods := #[k2m0]
  instanceTypes := #[]
  staticTypes := #[]
  resolved := Array.replicate 22 none
  statics := none }

def pool3 : Array CpInfo := pool [(1, .methodref 2 3), (0, .class_ 4), (0, .nameAndType 5 6), (0, u "java/lang/Record"), (0, u "<init>"), (0, u "()V"), (0, .fieldref 8 9), (0, .class_ 10), (0, .nameAndType 11 12), (0, u "com/example/portcrier/portcrier/engine/portmap/MappingChange"), (0, u "set"), (0, u "Z"), (0, .fieldref 8 14), (0, .nameAndType 15 16), (0, u "mapping"), (0, u "Lcom/example/portcrier/portcrier/wire/portmap/Mapping;"), (0, .class_ 18), (0, u "com/example/portcrier/portcrier/wire/portmap/Mapping"), (0, .methodref 17 20), (0, .nameAndType 5 21), (0, u "(IIII)V"), (0, .methodref 8 23), (0, .nameAndType 5 24), (0, u "(ZLcom/example/portcrier/portcrier/wire/portmap/Mapping;)V"), (15, u "unset"), (0, u "(II)Lcom/example/portcrier/portcrier/engine/portmap/MappingChange;"), (3, u "()Z"), (0, u "()Lcom/example/portcrier/portcrier/wire/portmap/Mapping;")] 21

def k3c0 : Code := { maxStack := 2, maxLocals := 3, code := prog_21_method_1_code, exceptionTable := #[], attributes := #[] }
def k3m0 : Method := { name := "<init>", desc := "(ZLcom/example/portcrier/portcrier/wire/portmap/Mapping;)V", sig := { parameters := [.boolean, (.object "com/example/portcrier/portcrier/wire/portmap/Mapping")], returnType := none }, accessFlags := 1, code := some k3c0 }
def k3c1 : Code := { maxStack := 9, maxLocals := 2, code := prog_21_method_2_code, exceptionTable := #[], attributes := #[] }
def k3m1 : Method := { name := "unset", desc := "(II)Lcom/example/portcrier/portcrier/engine/portmap/MappingChange;", sig := { parameters := [.int, .int], returnType := some (.object "com/example/portcrier/portcrier/engine/portmap/MappingChange") }, accessFlags := 8, code := some k3c1 }
def k3c2 : Code := { maxStack := 1, maxLocals := 1, code := prog_21_method_6_code, exceptionTable := #[], attributes := #[] }
def k3m2 : Method := { name := "set", desc := "()Z", sig := { parameters := [], returnType := some .boolean }, accessFlags := 1, code := some k3c2 }
def k3c3 : Code := { maxStack := 1, maxLocals := 1, code := prog_21_method_7_code, exceptionTable := #[], attributes := #[] }
def k3m3 : Method := { name := "mapping", desc := "()Lcom/example/portcrier/portcrier/wire/portmap/Mapping;", sig := { parameters := [], returnType := some (.object "com/example/portcrier/portcrier/wire/portmap/Mapping") }, accessFlags := 1, code := some k3c3 }
/-- com/example/portcrier/portcrier/engine/portmap/MappingChange -/
def k3 : Class := { plain "com/example/portcrier/portcrier/engine/portmap/MappingChange" (some 2) with
  accessFlags := 49
  interfaces := #[]
  cf := some (fileOf pool3 8 #[] #[{ accessFlags := 1, nameIndex := 5, descriptorIndex := 24, attributes := #[] }, { accessFlags := 8, nameIndex := 40, descriptorIndex := 41, attributes := #[] }, { accessFlags := 1, nameIndex := 11, descriptorIndex := 45, attributes := #[] }, { accessFlags := 1, nameIndex := 15, descriptorIndex := 46, attributes := #[] }] 49 2 #[] #[{ accessFlags := 18, nameIndex := 11, descriptorIndex := 12, attributes := #[] }, { accessFlags := 18, nameIndex := 15, descriptorIndex := 16, attributes := #[] }])
  fields := #[{ name := "set", type := .boolean, accessFlags := 18, slot := 0, constantValue := 0 }, { name := "mapping", type := (.object "com/example/portcrier/portcrier/wire/portmap/Mapping"), accessFlags := 18, slot := 1, constantValue := 0 }]
  methods := #[k3m0, k3m1, k3m2, k3m3]
  instanceTypes := #[.boolean, (.object "com/example/portcrier/portcrier/wire/portmap/Mapping")]
  staticTypes := #[]
  resolved := Array.replicate 68 none
  statics := none }

def pool4 : Array CpInfo := pool [(1, .methodref 2 3), (0, .class_ 4), (0, .nameAndType 5 6), (0, u "java/lang/Record"), (0, u "<init>"), (0, u "()V"), (0, .fieldref 8 9), (0, .class_ 10), (0, .nameAndType 11 12), (0, u "com/example/portcrier/portcrier/wire/portmap/Mapping"), (0, u "program"), (0, u "I"), (0, .fieldref 8 14), (0, .nameAndType 15 12), (0, u "version"), (0, .fieldref 8 17), (0, .nameAndType 18 12), (0, u "protocol"), (0, .fieldref 8 20), (0, .nameAndType 21 12), (0, u "port"), (5, u "()I"), (2, u "(IIII)V"), (58, u "TCP"), (2, u "UDP"), (1, u "LENGTH"), (1, u "BOOLEAN")] 41

def k4c0 : Code := { maxStack := 2, maxLocals := 5, code := prog_42_method_1_code, exceptionTable := #[], attributes := #[] }
def k4m0 : Method := { name := "<init>", desc := "(IIII)V", sig := { parameters := [.int, .int, .int, .int], returnType := none }, accessFlags := 1, code := some k4c0 }
def k4c1 : Code := { maxStack := 1, maxLocals := 1, code := prog_42_method_10_code, exceptionTable := #[], attributes := #[] }
def k4m1 : Method := { name := "program", desc := "()I", sig := { parameters := [], returnType := some .int }, accessFlags := 1, code := some k4c1 }
def k4c2 : Code := { maxStack := 1, maxLocals := 1, code := prog_42_method_11_code, exceptionTable := #[], attributes := #[] }
def k4m2 : Method := { name := "version", desc := "()I", sig := { parameters := [], returnType := some .int }, accessFlags := 1, code := some k4c2 }
def k4c3 : Code := { maxStack := 1, maxLocals := 1, code := prog_42_method_12_code, exceptionTable := #[], attributes := #[] }
def k4m3 : Method := { name := "protocol", desc := "()I", sig := { parameters := [], returnType := some .int }, accessFlags := 1, code := some k4c3 }
def k4c4 : Code := { maxStack := 1, maxLocals := 1, code := prog_42_method_13_code, exceptionTable := #[], attributes := #[] }
def k4m4 : Method := { name := "port", desc := "()I", sig := { parameters := [], returnType := some .int }, accessFlags := 1, code := some k4c4 }
/-- com/example/portcrier/portcrier/wire/portmap/Mapping -/
def k4 : Class := { plain "com/example/portcrier/portcrier/wire/portmap/Mapping" (some 2) with
  accessFlags := 49
  interfaces := #[]
  cf := some (fileOf pool4 8 #[] #[{ accessFlags := 1, nameIndex := 5, descriptorIndex := 30, attributes := #[] }, { accessFlags := 1, nameIndex := 11, descriptorIndex := 27, attributes := #[] }, { accessFlags := 1, nameIndex := 15, descriptorIndex := 27, attributes := #[] }, { accessFlags := 1, nameIndex := 18, descriptorIndex := 27, attributes := #[] }, { accessFlags := 1, nameIndex := 21, descriptorIndex := 27, attributes := #[] }] 49 2 #[] #[{ accessFlags := 18, nameIndex := 11, descriptorIndex := 12, attributes := #[] }, { accessFlags := 18, nameIndex := 15, descriptorIndex := 12, attributes := #[] }, { accessFlags := 18, nameIndex := 18, descriptorIndex := 12, attributes := #[] }, { accessFlags := 18, nameIndex := 21, descriptorIndex := 12, attributes := #[] }, { accessFlags := 25, nameIndex := 89, descriptorIndex := 12, attributes := #[] }, { accessFlags := 25, nameIndex := 92, descriptorIndex := 12, attributes := #[] }, { accessFlags := 25, nameIndex := 94, descriptorIndex := 12, attributes := #[] }, { accessFlags := 26, nameIndex := 96, descriptorIndex := 12, attributes := #[] }])
  fields := #[{ name := "program", type := .int, accessFlags := 18, slot := 0, constantValue := 0 }, { name := "version", type := .int, accessFlags := 18, slot := 1, constantValue := 0 }, { name := "protocol", type := .int, accessFlags := 18, slot := 2, constantValue := 0 }, { name := "port", type := .int, accessFlags := 18, slot := 3, constantValue := 0 }, { name := "TCP", type := .int, accessFlags := 25, slot := 0, constantValue := 0 }, { name := "UDP", type := .int, accessFlags := 25, slot := 1, constantValue := 0 }, { name := "LENGTH", type := .int, accessFlags := 25, slot := 2, constantValue := 0 }, { name := "BOOLEAN", type := .int, accessFlags := 26, slot := 3, constantValue := 0 }]
  methods := #[k4m0, k4m1, k4m2, k4m3, k4m4]
  instanceTypes := #[.int, .int, .int, .int]
  staticTypes := #[.int, .int, .int, .int]
  resolved := Array.replicate 138 none
  statics := none }

def pool5 : Array CpInfo := pool [(1, u "java/lang/Cloneable"), (0, .class_ 1), (0, u "java/lang/Object"), (0, .class_ 3)] 3

/-- java/lang/Cloneable -/
def k5 : Class := { plain "java/lang/Cloneable" (some 0) with
  accessFlags := 1537
  interfaces := #[]
  cf := some (fileOf pool5 2 #[] #[] 1537 4 #[] #[])
  fields := #[]
  methods := #[]
  instanceTypes := #[]
  staticTypes := #[]
  resolved := Array.replicate 8 none
  statics := none }

def pool6 : Array CpInfo := pool [(1, u "java/io/Serializable"), (0, .class_ 1), (0, u "java/lang/Object"), (0, .class_ 3)] 3

/-- java/io/Serializable -/
def k6 : Class := { plain "java/io/Serializable" (some 0) with
  accessFlags := 1537
  interfaces := #[]
  cf := some (fileOf pool6 2 #[] #[] 1537 4 #[] #[])
  fields := #[]
  methods := #[]
  instanceTypes := #[]
  staticTypes := #[]
  resolved := Array.replicate 8 none
  statics := none }

/-- the primitive byte -/
def k7 : Class := { plain "byte" none with kind := .primitive 'B', accessFlags := 0x411 }
/-- [B -/
def k8 : Class := { plain "[B" (some 0) with kind := .array 7 .byte, interfaces := #[5, 6], accessFlags := 1041 }

/-- the primitive int -/
def k9 : Class := { plain "int" none with kind := .primitive 'I', accessFlags := 0x411 }
/-- [I -/
def k10 : Class := { plain "[I" (some 0) with kind := .array 9 .int, interfaces := #[5, 6], accessFlags := 1041 }

def heap : Heap := #[]
def classes : Array Class := #[k0, k1, k2, k3, k4, k5, k6, k7, k8, k9, k10]
def interned : List (Array UInt16 × Addr) := []
def slotsUsed : Nat := 0
def theMethod : MethodId := ⟨1, 1⟩
def args0 : Array Value := #[.int 5, .int 3]
def aboutOver (below : List Frame) : State where
  vm := { classes := classes, interned := interned.toArray }
  heap := heap
  slotsUsed := slotsUsed
  threads := #[{ frames := .invoking theMethod args0 :: below }]
def below0 : List Frame := [.native { method := ⟨0, 0⟩, args := #[] }]
def about1 : State := aboutOver below0
def p0 : Program := .bare "" "" ""
def e0 : Env := launch0.env 0 0 0
theorem w_frames : about1.frames = Frame.invoking theMethod args0 :: below0 := rfl
set_option maxRecDepth 65536 in
theorem w_args : argsFit about1.vm theMethod args0 = true := by decide +kernel
set_option maxRecDepth 65536 in
theorem w_heap : heapFits about1 = true := by decide +kernel
set_option maxRecDepth 65536 in
theorem w_runnable : about1.curStatus? = some .runnable := by decide +kernel
set_option maxRecDepth 65536 in
theorem w_alone : about1.alone = true := by decide +kernel
set_option maxRecDepth 65536 in
theorem w_named : about1.methodNamed? x = some theMethod := by decide +kernel
set_option maxRecDepth 65536 in
theorem w_hears : about1.hears theMethod below0 = true := by decide +kernel
set_option maxRecDepth 65536 in
theorem w_ripe : about1.ripe theMethod args0 below0 = true := by decide +kernel
theorem w_running : about1.status = .running := rfl
set_option maxRecDepth 65536 in
theorem w_room : about1.hasRoom e0.platform room_1 = true :=
  launch0.hasRoom_least _ room_1 (by decide +kernel) (by decide +kernel) (by decide +kernel) (by decide +kernel) (by decide +kernel) (by decide +kernel)
theorem allAtoms_all (ts : List Jvm.Cond) (a : Array Jvm.Value) (st : Jvm.State) : (allAtoms ts).before a st = ts.all (fun c => c.before a st) := by
  induction ts with
  | nil => rfl
  | cons c t ih =>
    show (Jvm.Cond.and c (allAtoms t)).before a st = _
    rw [Jvm.Cond.before_and, ih, List.all_cons]
def words1 : List Jvm.Cond := Jvm.Cond.code x code maxLocals ret :: tables_1
/-- a 'code' word, met by the world's own term for the bytes: nothing is compared byte by byte -/
theorem code_word {y : MethodName} {bytes : ByteArray} {mx : Nat} {rt : Option FieldType} {a : Array Value} {s : State} {m : MethodId} {meth : Method} {c : Code} (h1 : s.methodNamed? y = some m) (h2 : s.vm.method? m = some meth) (h3 : meth.code = some c) (h4 : c.code = bytes)
    (h5 : (c.maxLocals == mx && c.exceptionTable.isEmpty && decide (c.maxStack ≤ mostOperands) && decide (meth.sig.returnType = rt) && !meth.locks && decide (parseMethodDescriptor y.desc = some meth.sig)) = true) : (Jvm.Cond.code y bytes mx rt).before a s = true := by
  simp only [Bool.and_eq_true, beq_iff_eq, Bool.not_eq_true', decide_eq_true_eq] at h5
  obtain ⟨⟨⟨⟨⟨g1, g2⟩, g3⟩, g4⟩, g5⟩, g6⟩ := h5
  simp [Cond.before, Cond.holds, Cond.value, h1, h2, h3, h4, g1, g2, g3, g4, g5, g6]
def isCode : Jvm.Cond → Bool
  | .code _ _ _ _ => true
  | _ => false
theorem all_split {L : List Jvm.Cond} {P : Jvm.Cond → Bool} (h1 : L.all (fun c => isCode c || P c) = true) (h2 : ∀ c ∈ L.filter isCode, P c = true) : L.all P = true := by
  refine List.all_eq_true.mpr fun c hc => ?_
  have h := List.all_eq_true.mp h1 c hc
  rcases Bool.eq_false_or_eq_true (isCode c) with hi | hi
  · exact h2 c (List.mem_filter.mpr ⟨hc, hi⟩)
  · simpa [hi] using h
set_option maxRecDepth 65536 in
theorem w_c0 : (Jvm.Cond.code x code maxLocals ret).before args0 about1 = true := code_word (m := ⟨1, 1⟩) (meth := k1m1) (c := k1c1) (by decide +kernel) rfl rfl rfl (by decide +kernel)
set_option maxRecDepth 65536 in
theorem w_c1 : (Jvm.Cond.code ({ cls := "com/example/portcrier/portcrier/engine/portmap/MappingChange", name := "unset", desc := "(II)Lcom/example/portcrier/portcrier/engine/portmap/MappingChange;" } : Jvm.MethodName) prog_21_method_2_code (2 : Nat) (Option.some (Jvm.ClassFile.FieldType.object "com/example/portcrier/portcrier/engine/portmap/MappingChange"))).before args0 about1 = true := code_word (m := ⟨3, 1⟩) (meth := k3m1) (c := k3c1) (by decide +kernel) rfl rfl rfl (by decide +kernel)
set_option maxRecDepth 65536 in
theorem w_c2 : (Jvm.Cond.code ({ cls := "com/example/portcrier/portcrier/wire/portmap/Mapping", name := "<init>", desc := "(IIII)V" } : Jvm.MethodName) prog_42_method_1_code (5 : Nat) (Option.none : Option Jvm.ClassFile.FieldType)).before args0 about1 = true := code_word (m := ⟨4, 0⟩) (meth := k4m0) (c := k4c0) (by decide +kernel) rfl rfl rfl (by decide +kernel)
set_option maxRecDepth 65536 in
theorem w_c3 : (Jvm.Cond.code ({ cls := "java/lang/Record", name := "<init>", desc := "()V" } : Jvm.MethodName) jdk_30_method_1_code (1 : Nat) (Option.none : Option Jvm.ClassFile.FieldType)).before args0 about1 = true := code_word (m := ⟨2, 0⟩) (meth := k2m0) (c := k2c0) (by decide +kernel) rfl rfl rfl (by decide +kernel)
set_option maxRecDepth 65536 in
theorem w_c4 : (Jvm.Cond.code ({ cls := "java/lang/Object", name := "<init>", desc := "()V" } : Jvm.MethodName) object_method_1_code (1 : Nat) (Option.none : Option Jvm.ClassFile.FieldType)).before args0 about1 = true := code_word (m := ⟨0, 0⟩) (meth := k0m0) (c := k0c0) (by decide +kernel) rfl rfl rfl (by decide +kernel)
set_option maxRecDepth 65536 in
theorem w_c5 : (Jvm.Cond.code ({ cls := "com/example/portcrier/portcrier/engine/portmap/MappingChange", name := "<init>", desc := "(ZLcom/example/portcrier/portcrier/wire/portmap/Mapping;)V" } : Jvm.MethodName) prog_21_method_1_code (3 : Nat) (Option.none : Option Jvm.ClassFile.FieldType)).before args0 about1 = true := code_word (m := ⟨3, 0⟩) (meth := k3m0) (c := k3c0) (by decide +kernel) rfl rfl rfl (by decide +kernel)
set_option maxRecDepth 65536 in
theorem w_c6 : (Jvm.Cond.code ({ cls := "com/example/portcrier/portcrier/engine/portmap/MappingChange", name := "set", desc := "()Z" } : Jvm.MethodName) prog_21_method_6_code (1 : Nat) (Option.some Jvm.ClassFile.FieldType.boolean)).before args0 about1 = true := code_word (m := ⟨3, 2⟩) (meth := k3m2) (c := k3c2) (by decide +kernel) rfl rfl rfl (by decide +kernel)
set_option maxRecDepth 65536 in
theorem w_c7 : (Jvm.Cond.code ({ cls := "com/example/portcrier/portcrier/engine/portmap/MappingChange", name := "mapping", desc := "()Lcom/example/portcrier/portcrier/wire/portmap/Mapping;" } : Jvm.MethodName) prog_21_method_7_code (1 : Nat) (Option.some (Jvm.ClassFile.FieldType.object "com/example/portcrier/portcrier/wire/portmap/Mapping"))).before args0 about1 = true := code_word (m := ⟨3, 3⟩) (meth := k3m3) (c := k3c3) (by decide +kernel) rfl rfl rfl (by decide +kernel)
set_option maxRecDepth 65536 in
theorem w_c8 : (Jvm.Cond.code ({ cls := "com/example/portcrier/portcrier/wire/portmap/Mapping", name := "program", desc := "()I" } : Jvm.MethodName) prog_42_method_10_code (1 : Nat) (Option.some Jvm.ClassFile.FieldType.int)).before args0 about1 = true := code_word (m := ⟨4, 1⟩) (meth := k4m1) (c := k4c1) (by decide +kernel) rfl rfl rfl (by decide +kernel)
set_option maxRecDepth 65536 in
theorem w_c9 : (Jvm.Cond.code ({ cls := "com/example/portcrier/portcrier/wire/portmap/Mapping", name := "version", desc := "()I" } : Jvm.MethodName) prog_42_method_11_code (1 : Nat) (Option.some Jvm.ClassFile.FieldType.int)).before args0 about1 = true := code_word (m := ⟨4, 2⟩) (meth := k4m2) (c := k4c2) (by decide +kernel) rfl rfl rfl (by decide +kernel)
set_option maxRecDepth 65536 in
theorem w_c10 : (Jvm.Cond.code ({ cls := "com/example/portcrier/portcrier/wire/portmap/Mapping", name := "protocol", desc := "()I" } : Jvm.MethodName) prog_42_method_12_code (1 : Nat) (Option.some Jvm.ClassFile.FieldType.int)).before args0 about1 = true := code_word (m := ⟨4, 3⟩) (meth := k4m3) (c := k4c3) (by decide +kernel) rfl rfl rfl (by decide +kernel)
set_option maxRecDepth 65536 in
theorem w_c11 : (Jvm.Cond.code ({ cls := "com/example/portcrier/portcrier/wire/portmap/Mapping", name := "port", desc := "()I" } : Jvm.MethodName) prog_42_method_13_code (1 : Nat) (Option.some Jvm.ClassFile.FieldType.int)).before args0 about1 = true := code_word (m := ⟨4, 4⟩) (meth := k4m4) (c := k4c4) (by decide +kernel) rfl rfl rfl (by decide +kernel)
def codes1 : List Jvm.Cond := [Jvm.Cond.code x code maxLocals ret, Jvm.Cond.code ({ cls := "com/example/portcrier/portcrier/engine/portmap/MappingChange", name := "unset", desc := "(II)Lcom/example/portcrier/portcrier/engine/portmap/MappingChange;" } : Jvm.MethodName) prog_21_method_2_code (2 : Nat) (Option.some (Jvm.ClassFile.FieldType.object "com/example/portcrier/portcrier/engine/portmap/MappingChange")), Jvm.Cond.code ({ cls := "com/example/portcrier/portcrier/wire/portmap/Mapping", name := "<init>", desc := "(IIII)V" } : Jvm.MethodName) prog_42_method_1_code (5 : Nat) (Option.none : Option Jvm.ClassFile.FieldType), Jvm.Cond.code ({ cls := "java/lang/Record", name := "<init>", desc := "()V" } : Jvm.MethodName) jdk_30_method_1_code (1 : Nat) (Option.none : Option Jvm.ClassFile.FieldType), Jvm.Cond.code ({ cls := "java/lang/Object", name := "<init>", desc := "()V" } : Jvm.MethodName) object_method_1_code (1 : Nat) (Option.none : Option Jvm.ClassFile.FieldType), Jvm.Cond.code ({ cls := "com/example/portcrier/portcrier/engine/portmap/MappingChange", name := "<init>", desc := "(ZLcom/example/portcrier/portcrier/wire/portmap/Mapping;)V" } : Jvm.MethodName) prog_21_method_1_code (3 : Nat) (Option.none : Option Jvm.ClassFile.FieldType), Jvm.Cond.code ({ cls := "com/example/portcrier/portcrier/engine/portmap/MappingChange", name := "set", desc := "()Z" } : Jvm.MethodName) prog_21_method_6_code (1 : Nat) (Option.some Jvm.ClassFile.FieldType.boolean), Jvm.Cond.code ({ cls := "com/example/portcrier/portcrier/engine/portmap/MappingChange", name := "mapping", desc := "()Lcom/example/portcrier/portcrier/wire/portmap/Mapping;" } : Jvm.MethodName) prog_21_method_7_code (1 : Nat) (Option.some (Jvm.ClassFile.FieldType.object "com/example/portcrier/portcrier/wire/portmap/Mapping")), Jvm.Cond.code ({ cls := "com/example/portcrier/portcrier/wire/portmap/Mapping", name := "program", desc := "()I" } : Jvm.MethodName) prog_42_method_10_code (1 : Nat) (Option.some Jvm.ClassFile.FieldType.int), Jvm.Cond.code ({ cls := "com/example/portcrier/portcrier/wire/portmap/Mapping", name := "version", desc := "()I" } : Jvm.MethodName) prog_42_method_11_code (1 : Nat) (Option.some Jvm.ClassFile.FieldType.int), Jvm.Cond.code ({ cls := "com/example/portcrier/portcrier/wire/portmap/Mapping", name := "protocol", desc := "()I" } : Jvm.MethodName) prog_42_method_12_code (1 : Nat) (Option.some Jvm.ClassFile.FieldType.int), Jvm.Cond.code ({ cls := "com/example/portcrier/portcrier/wire/portmap/Mapping", name := "port", desc := "()I" } : Jvm.MethodName) prog_42_method_13_code (1 : Nat) (Option.some Jvm.ClassFile.FieldType.int)]
set_option maxRecDepth 65536 in
theorem codes_eq : words1.filter isCode = codes1 := rfl
theorem w_codes : ∀ c ∈ words1.filter isCode, c.before args0 about1 = true := by
  rw [codes_eq]
  intro c hc
  simp only [codes1, List.mem_cons, List.not_mem_nil, or_false] at hc
  rcases hc with rfl | rfl | rfl | rfl | rfl | rfl | rfl | rfl | rfl | rfl | rfl | rfl
  · exact w_c0
  · exact w_c1
  · exact w_c2
  · exact w_c3
  · exact w_c4
  · exact w_c5
  · exact w_c6
  · exact w_c7
  · exact w_c8
  · exact w_c9
  · exact w_c10
  · exact w_c11
set_option maxRecDepth 65536 in
theorem w_t1 : (words1.take 24).all (fun c => isCode c || c.before args0 about1) = true := by decide +kernel
set_option maxRecDepth 65536 in
theorem w_t2 : ((words1.drop 24).take 24).all (fun c => isCode c || c.before args0 about1) = true := by decide +kernel
set_option maxRecDepth 65536 in
theorem w_t3 : ((words1.drop 24).drop 24).all (fun c => isCode c || c.before args0 about1) = true := by decide +kernel
theorem w_tables : (allAtoms (Jvm.Cond.code x code maxLocals ret :: tables_1)).before args0 about1 = true := by
  rw [allAtoms_all]
  show words1.all (fun c => c.before args0 about1) = true
  refine all_split ?_ w_codes
  rw [← List.take_append_drop 24 words1, List.all_append, w_t1, ← List.take_append_drop 24 (words1.drop 24), List.all_append, w_t2, w_t3]
  rfl
set_option maxRecDepth 65536 in
theorem w_case : (Jvm.Cond.and given_1 narrow_1).before args0 about1 = true := by decide +kernel
theorem w_applies : (headSpec (Jvm.Cond.code x code maxLocals ret :: tables_1) room_1).applies x e0.platform about1 = true :=
  (Spec.applies_iff w_frames).mpr ⟨w_running, w_runnable, w_alone, w_named, w_hears, w_ripe, w_room, w_tables⟩
theorem atStart : AtStart classFile x code maxLocals ret World_1 tables_1 room_1 Calls_1 rest_1 Pre_1 launch0 p0 e0 about1 theMethod args0 below0 :=
  ⟨lists_1, trivial, launch0.admits_env _ _ _, launch0.least_env, fairChoices_fair.cas, fairChoices_fair.clock, w_frames, w_args, w_heap, w_applies, trivial, trivial, w_case⟩
end start1
theorem witness_1 : WitnessClaimed_1 := ⟨start1.p0, start1.e0, start1.about1, start1.theMethod, start1.args0, start1.below0, start1.atStart⟩
end Jvm.Pilot.@@N@@
