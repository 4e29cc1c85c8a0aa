import JvmDerived
import JvmDerived.Pilot.@@N@@Statement
import JvmDerived.Pilot.@@N@@Code
set_option linter.unusedVariables false
set_option linter.unusedSimpArgs false
namespace Jvm.Pilot.@@N@@
open Jvm Jvm.ClassFile Sem Op Lib Jvm.Free Jvm.Stand Jvm.LawKit Jvm.RoadKit Bundle Jvm.Pilot.@@N@@.Jvm.D
section OwnHead
variable {p : Program} {l : Launch} {e : Env} {R : Room} {s : State} {m : MethodId} {args : Array Value} {below : List Frame} {meth : Method} {c : Code} {T : State} {locs : List Loc} {cells slots : Nat} {Z : State} {a0 : Array Value} {h : Heap} {Q : Option Value → Heap → List Loc → Prop} {P : State → Outcome → Prop} {ce sl : Nat} {pc pc' : Nat} {Ls : Array Slot} {st : List Value}
def own_G (p : Program) (e : Env) (below : List Frame) (P : State → Outcome → Prop) (S : State) : Prop := ∃ s₂ o, Steps p.tables e below S s₂ ∧ s₂.status = .running ∧ Ended s₂ below o ∧ P s₂ o
def own_P (s : State) (Q : Option Value → Heap → List Loc → Prop) (ce sl : Nat) (s₂ : State) (o : Outcome) : Prop := ∃ v L, o = .returned v ∧ Q v s₂.heap L ∧ FrameEnd s o s₂ L ce sl
theorem own_fw {S S' : State} (h : ∀ t, Steps p.tables e below S' t → Steps p.tables e below S t) (g : own_G p e below P S') : own_G p e below P S := by
  obtain ⟨s₂, o, h1, r⟩ := g; exact ⟨s₂, o, h _ h1, r⟩
theorem own_via {S S' : State} (h : own_G p e below P S' → own_G p e below P S) (g : own_G p e below P S') : own_G p e below P S := h g
theorem own_cast {S S' : State} (h : S = S') (g : own_G p e below P S') : own_G p e below P S := h ▸ g
abbrev own_M (l : Launch) (Z : State) (y : MethodName) (bytes : ByteArray) (maxL : Nat) (ret : Option FieldType) (ws : List Jvm.Cond) (rm : Room) (as' : Array Value) (h0 : Heap) (Q : Option Value → Heap → List Loc → Prop) (ce sl : Nat) : Prop := MetFree l y (head1 (Jvm.Cond.code y bytes maxL ret :: ws) rm) (fun a U => a = as' ∧ Z.Warmed39 U.vm ∧ U.heap = h0) (fun _ _ _ _ _ => True) (fun _ U o U' => ∃ v L, o = .returned v ∧ Q v U'.heap L ∧ FrameEnd U o U' L ce sl)
theorem own_body {y : MethodName} {bytes : ByteArray} {maxL : Nat} {ret : Option FieldType} {ws : List Jvm.Cond} {rm : Room} {as' : Array Value} {h0 : Heap} (hp : plainFor y = true)
    (body : ∀ (p : Program) (e : Env) (s : State) (m : MethodId) (below : List Frame) (meth : Method) (c : Code) (s₁ : State), p.tables.exec = Jvm.exec → c.code = bytes → c.maxLocals = maxL → s.vm.findClass y.cls = some m.cls → meth.name = y.name → meth.sig.returnType = ret → meth.locks = false → Z.Warmed39 s.vm → Stand p l e rm s m as' below meth c s₁ [] 0 0 → s₁.heap = h0 → own_G p e below (own_P s Q ce sl) (s₁.setTop (entryFrame m as' maxL))) : own_M l Z y bytes maxL ret ws rm as' h0 Q ce sl := by
  refine MetFree.of_bodySF hp hisR ?_
  intro p e s m args below meth c s₁ Bd hml hP hK
  obtain ⟨rfl, hZ, hh⟩ := hP
  exact body p e s m below meth c s₁ Bd.exec Bd.bytes hml (findClass_of_methodNamed Bd.named) (name_of_methodNamed Bd.named Bd.method).1 Bd.returns Bd.notSynchronized hZ (Stand.of_body Bd) (by rw [← hh, Bd.state]; rfl)
theorem own_ret (X : Stand p l e R s m args below meth c T locs cells slots) (hx : p.tables.exec = Jvm.exec) {w : Value} {t : FieldType} {i : Instr} (hret : meth.sig.returnType = some t) (hlk : meth.locks = false) (hn : narrow t w = w)
    (hi : (i = .ireturn ∧ (t = .int ∨ t = .boolean ∨ t = .byte ∨ t = .char ∨ t = .short) ∧ ∃ z, w = .int z) ∨ (i = .lreturn ∧ t = .long ∧ ∃ z, w = .long z) ∨ (i = .dreturn ∧ t = .double ∧ ∃ z, w = .double z) ∨ (i = .freturn ∧ t = .float ∧ ∃ z, w = .float z) ∨ (i = .areturn ∧ t.isReference = true ∧ w.isRef = true))
    (hd : decode c.code pc = .ok (i, 1)) (hQ : Q (some w) T.heap locs) (hce : cells ≤ ce) (hsl : slots ≤ sl) : own_G p e below (own_P s Q ce sl) (T.setTop (mkF m pc Ls (w :: st))) := by
  obtain ⟨fs, hr, hrun, hended, hW, hsame⟩ := X.leave (v := some w) (fun h => by rw [hret] at h; cases h) hlk
  exact ⟨_, _, retOut X hx hret hn hi hd hr, hrun, hended, _, _, rfl, hQ, ⟨_, rfl⟩, hW, hsame.mono hce hsl⟩
theorem own_retI (X : Stand p l e R s m args below meth c T locs cells slots) (hx : p.tables.exec = Jvm.exec) {z : Int32} (hret : meth.sig.returnType = some .int) (hlk : meth.locks = false) (hd : decode c.code pc = .ok (.ireturn, 1)) (hQ : Q (some (.int z)) T.heap locs) (hce : cells ≤ ce) (hsl : slots ≤ sl) : own_G p e below (own_P s Q ce sl) (T.setTop (mkF m pc Ls (.int z :: st))) := own_ret X hx hret hlk rfl (Or.inl ⟨rfl, Or.inl rfl, z, rfl⟩) hd hQ hce hsl
theorem own_retZ (X : Stand p l e R s m args below meth c T locs cells slots) (hx : p.tables.exec = Jvm.exec) {z : Int32} (hret : meth.sig.returnType = some .boolean) (hlk : meth.locks = false) (hz : z = 0 ∨ z = 1) (hd : decode c.code pc = .ok (.ireturn, 1)) (hQ : Q (some (.int z)) T.heap locs) (hce : cells ≤ ce) (hsl : slots ≤ sl) : own_G p e below (own_P s Q ce sl) (T.setTop (mkF m pc Ls (.int z :: st))) := own_ret X hx hret hlk (by rcases hz with rfl | rfl <;> rfl) (Or.inl ⟨rfl, Or.inr (Or.inl rfl), z, rfl⟩) hd hQ hce hsl
theorem own_retB (X : Stand p l e R s m args below meth c T locs cells slots) (hx : p.tables.exec = Jvm.exec) {z : Int32} (hret : meth.sig.returnType = some .byte) (hlk : meth.locks = false) (hz : narrow .byte (.int z) = .int z) (hd : decode c.code pc = .ok (.ireturn, 1)) (hQ : Q (some (.int z)) T.heap locs) (hce : cells ≤ ce) (hsl : slots ≤ sl) : own_G p e below (own_P s Q ce sl) (T.setTop (mkF m pc Ls (.int z :: st))) := own_ret X hx hret hlk hz (Or.inl ⟨rfl, Or.inr (Or.inr (Or.inl rfl)), z, rfl⟩) hd hQ hce hsl
theorem own_retL (X : Stand p l e R s m args below meth c T locs cells slots) (hx : p.tables.exec = Jvm.exec) {z : Int64} (hret : meth.sig.returnType = some .long) (hlk : meth.locks = false) (hd : decode c.code pc = .ok (.lreturn, 1)) (hQ : Q (some (.long z)) T.heap locs) (hce : cells ≤ ce) (hsl : slots ≤ sl) : own_G p e below (own_P s Q ce sl) (T.setTop (mkF m pc Ls (.long z :: st))) := own_ret X hx hret hlk rfl (Or.inr (Or.inl ⟨rfl, rfl, z, rfl⟩)) hd hQ hce hsl
theorem own_retA (X : Stand p l e R s m args below meth c T locs cells slots) (hx : p.tables.exec = Jvm.exec) {v : Value} {t : FieldType} (hret : meth.sig.returnType = some t) (hlk : meth.locks = false) (ht : t.isReference = true) (hn : narrow t v = v) (hv : v.isRef = true) (hd : decode c.code pc = .ok (.areturn, 1)) (hQ : Q (some v) T.heap locs) (hce : cells ≤ ce) (hsl : slots ≤ sl) : own_G p e below (own_P s Q ce sl) (T.setTop (mkF m pc Ls (v :: st))) := own_ret X hx hret hlk hn (Or.inr (Or.inr (Or.inr (Or.inr ⟨rfl, ht, hv⟩)))) hd hQ hce hsl
theorem own_retV (X : Stand p l e R s m args below meth c T locs cells slots) (hx : p.tables.exec = Jvm.exec) (hret : meth.sig.returnType = none) (hlk : meth.locks = false) (hd : decode c.code pc = .ok (.return_, 1)) (hQ : Q none T.heap locs) (hce : cells ≤ ce) (hsl : slots ≤ sl) : own_G p e below (own_P s Q ce sl) (T.setTop (mkF m pc Ls [])) := by
  obtain ⟨fs, hr, hrun, hended, hW, hsame⟩ := X.leave (v := none) (fun _ => rfl) hlk
  exact ⟨_, _, X.returnOut hx hret hd hr, hrun, hended, _, _, rfl, hQ, ⟨_, rfl⟩, hW, hsame.mono hce hsl⟩
theorem own_iloadN {i : Fin 4} {v : Int32} (X : Stand p l e R s m args below meth c T locs cells slots) (hx : p.tables.exec = Jvm.exec) (hd : decode c.code pc = .ok (.iload_n i, 1)) (hl : Ls[i.val]? = some (.val (.int v))) (hp : pc + 1 = pc') (k : own_G p e below P (T.setTop (mkF m pc' Ls (.int v :: st)))) : own_G p e below P (T.setTop (mkF m pc Ls st)) := by
  subst hp; exact own_fw (fun t q => XS.iloadN X.here hx rfl hd hl q) k
theorem own_iload {i : Nat} {v : Int32} (X : Stand p l e R s m args below meth c T locs cells slots) (hx : p.tables.exec = Jvm.exec) (hd : decode c.code pc = .ok (.iload i, 2)) (hl : Ls[i]? = some (.val (.int v))) (hp : pc + 2 = pc') (k : own_G p e below P (T.setTop (mkF m pc' Ls (.int v :: st)))) : own_G p e below P (T.setTop (mkF m pc Ls st)) := by
  subst hp; exact own_fw (fun t q => XS.iload X.here hx rfl hd hl q) k
theorem own_lloadN {i : Fin 4} {v : Int64} (X : Stand p l e R s m args below meth c T locs cells slots) (hx : p.tables.exec = Jvm.exec) (hd : decode c.code pc = .ok (.lload_n i, 1)) (hl : Ls[i.val]? = some (.val (.long v))) (hp : pc + 1 = pc') (k : own_G p e below P (T.setTop (mkF m pc' Ls (.long v :: st)))) : own_G p e below P (T.setTop (mkF m pc Ls st)) := by
  subst hp; exact own_fw (fun t q => XS.lloadN X.here hx rfl hd hl q) k
theorem own_lload {i : Nat} {v : Int64} (X : Stand p l e R s m args below meth c T locs cells slots) (hx : p.tables.exec = Jvm.exec) (hd : decode c.code pc = .ok (.lload i, 2)) (hl : Ls[i]? = some (.val (.long v))) (hp : pc + 2 = pc') (k : own_G p e below P (T.setTop (mkF m pc' Ls (.long v :: st)))) : own_G p e below P (T.setTop (mkF m pc Ls st)) := by
  subst hp; exact own_fw (fun t q => XS.lload X.here hx rfl hd hl q) k
theorem own_aloadN {i : Fin 4} {v : Value} (X : Stand p l e R s m args below meth c T locs cells slots) (hx : p.tables.exec = Jvm.exec) (hd : decode c.code pc = .ok (.aload_n i, 1)) (hl : Ls[i.val]? = some (.val v)) (hv : v.isRef = true) (hp : pc + 1 = pc') (k : own_G p e below P (T.setTop (mkF m pc' Ls (v :: st)))) : own_G p e below P (T.setTop (mkF m pc Ls st)) := by
  subst hp; exact own_fw (fun t q => XS.aloadN X.here hx rfl hd hl hv q) k
theorem own_aload {i : Nat} {v : Value} (X : Stand p l e R s m args below meth c T locs cells slots) (hx : p.tables.exec = Jvm.exec) (hd : decode c.code pc = .ok (.aload i, 2)) (hl : Ls[i]? = some (.val v)) (hv : v.isRef = true) (hp : pc + 2 = pc') (k : own_G p e below P (T.setTop (mkF m pc' Ls (v :: st)))) : own_G p e below P (T.setTop (mkF m pc Ls st)) := by
  subst hp; exact own_fw (fun t q => XS.aload X.here hx rfl hd hl hv q) k
theorem own_istoreN {i : Fin 4} {v : Int32} (X : Stand p l e R s m args below meth c T locs cells slots) (hx : p.tables.exec = Jvm.exec) (hd : decode c.code pc = .ok (.istore_n i, 1)) {l' : Array Slot} (hl : storeLocals Ls i.val (.int v) = some l') (hp : pc + 1 = pc') (k : own_G p e below P (T.setTop (mkF m pc' l' st))) : own_G p e below P (T.setTop (mkF m pc Ls (.int v :: st))) := by
  subst hp; exact own_fw (fun t q => XS.istoreN X.here hx rfl hd rfl hl q) k
theorem own_istore {i : Nat} {v : Int32} (X : Stand p l e R s m args below meth c T locs cells slots) (hx : p.tables.exec = Jvm.exec) (hd : decode c.code pc = .ok (.istore i, 2)) {l' : Array Slot} (hl : storeLocals Ls i (.int v) = some l') (hp : pc + 2 = pc') (k : own_G p e below P (T.setTop (mkF m pc' l' st))) : own_G p e below P (T.setTop (mkF m pc Ls (.int v :: st))) := by
  subst hp; exact own_fw (fun t q => XS.istore X.here hx rfl hd rfl hl q) k
theorem own_lstoreN {i : Fin 4} {v : Int64} (X : Stand p l e R s m args below meth c T locs cells slots) (hx : p.tables.exec = Jvm.exec) (hd : decode c.code pc = .ok (.lstore_n i, 1)) {l' : Array Slot} (hl : storeLocals Ls i.val (.long v) = some l') (hp : pc + 1 = pc') (k : own_G p e below P (T.setTop (mkF m pc' l' st))) : own_G p e below P (T.setTop (mkF m pc Ls (.long v :: st))) := by
  subst hp; exact own_fw (fun t q => XS.lstoreN X.here hx rfl hd rfl hl q) k
theorem own_lstore {i : Nat} {v : Int64} (X : Stand p l e R s m args below meth c T locs cells slots) (hx : p.tables.exec = Jvm.exec) (hd : decode c.code pc = .ok (.lstore i, 2)) {l' : Array Slot} (hl : storeLocals Ls i (.long v) = some l') (hp : pc + 2 = pc') (k : own_G p e below P (T.setTop (mkF m pc' l' st))) : own_G p e below P (T.setTop (mkF m pc Ls (.long v :: st))) := by
  subst hp; exact own_fw (fun t q => XS.lstore X.here hx rfl hd rfl hl q) k
theorem own_astoreN {i : Fin 4} {v : Value} (X : Stand p l e R s m args below meth c T locs cells slots) (hx : p.tables.exec = Jvm.exec) (hd : decode c.code pc = .ok (.astore_n i, 1)) (hv : v.isRef = true) {l' : Array Slot} (hl : storeLocals Ls i.val v = some l') (hp : pc + 1 = pc') (k : own_G p e below P (T.setTop (mkF m pc' l' st))) : own_G p e below P (T.setTop (mkF m pc Ls (v :: st))) := by
  subst hp; exact own_fw (fun t q => XS.astoreN X.here hx rfl hd rfl hv hl q) k
theorem own_astore {i : Nat} {v : Value} (X : Stand p l e R s m args below meth c T locs cells slots) (hx : p.tables.exec = Jvm.exec) (hd : decode c.code pc = .ok (.astore i, 2)) (hv : v.isRef = true) {l' : Array Slot} (hl : storeLocals Ls i v = some l') (hp : pc + 2 = pc') (k : own_G p e below P (T.setTop (mkF m pc' l' st))) : own_G p e below P (T.setTop (mkF m pc Ls (v :: st))) := by
  subst hp; exact own_fw (fun t q => XS.astore X.here hx rfl hd rfl hv hl q) k
theorem own_iconst {i : Int} {z : Int32} (X : Stand p l e R s m args below meth c T locs cells slots) (hx : p.tables.exec = Jvm.exec) (hd : decode c.code pc = .ok (.iconst i, 1)) (hz : Int32.ofInt i = z) (hp : pc + 1 = pc') (k : own_G p e below P (T.setTop (mkF m pc' Ls (.int z :: st)))) : own_G p e below P (T.setTop (mkF m pc Ls st)) := by
  subst hp hz; exact own_fw (fun t q => XS.iconst X.here hx rfl hd q) k
theorem own_bipush {i : Int} {z : Int32} (X : Stand p l e R s m args below meth c T locs cells slots) (hx : p.tables.exec = Jvm.exec) (hd : decode c.code pc = .ok (.bipush i, 2)) (hz : (Int8.ofInt i).toInt32 = z) (hp : pc + 2 = pc') (k : own_G p e below P (T.setTop (mkF m pc' Ls (.int z :: st)))) : own_G p e below P (T.setTop (mkF m pc Ls st)) := by
  subst hp hz; exact own_fw (fun t q => XS.bipush X.here hx rfl hd q) k
theorem own_sipush {i : Int} {z : Int32} (X : Stand p l e R s m args below meth c T locs cells slots) (hx : p.tables.exec = Jvm.exec) (hd : decode c.code pc = .ok (.sipush i, 3)) (hz : (Int16.ofInt i).toInt32 = z) (hp : pc + 3 = pc') (k : own_G p e below P (T.setTop (mkF m pc' Ls (.int z :: st)))) : own_G p e below P (T.setTop (mkF m pc Ls st)) := by
  subst hp hz; exact own_fw (fun t q => XS.sipush X.here hx rfl hd q) k
theorem own_lconst {i : Fin 2} {z : Int64} (X : Stand p l e R s m args below meth c T locs cells slots) (hx : p.tables.exec = Jvm.exec) (hd : decode c.code pc = .ok (.lconst i, 1)) (hz : Int64.ofNat i = z) (hp : pc + 1 = pc') (k : own_G p e below P (T.setTop (mkF m pc' Ls (.long z :: st)))) : own_G p e below P (T.setTop (mkF m pc Ls st)) := by
  subst hp hz; exact own_fw (fun t q => XS.lconst X.here hx rfl hd q) k
theorem own_aconstNull (X : Stand p l e R s m args below meth c T locs cells slots) (hx : p.tables.exec = Jvm.exec) (hd : decode c.code pc = .ok (.aconst_null, 1)) (hp : pc + 1 = pc') (k : own_G p e below P (T.setTop (mkF m pc' Ls (.null :: st)))) : own_G p e below P (T.setTop (mkF m pc Ls st)) := by
  subst hp; exact own_fw (fun t q => XS.aconstNull X.here hx rfl hd q) k
theorem own_ldc (X : Stand p l e R s m args below meth c T locs cells slots) (hx : p.tables.exec = Jvm.exec) (hZ : Z.Warmed39 s.vm) {own : String} {index : Nat} {v : Int32} (hown : s.vm.findClass own = some m.cls) (w1 : (Jvm.Cond.constant own index v).before a0 Z = true) (hd : decode c.code pc = .ok (.ldc index, 2)) (hp : pc + 2 = pc') (k : own_G p e below P (T.setTop (mkF m pc' Ls (.int v :: st)))) : own_G p e below P (T.setTop (mkF m pc Ls st)) := by
  subst hp; exact own_fw (X.ldcInt hx hown (mvT hZ w1) (g := mkF m pc Ls st) rfl hd) k
theorem own_ldc2 (X : Stand p l e R s m args below meth c T locs cells slots) (hx : p.tables.exec = Jvm.exec) (hZ : Z.Warmed39 s.vm) {own : String} {index : Nat} {v : Int64} (hown : s.vm.findClass own = some m.cls) (w1 : (Jvm.Cond.constantLong own index v).before a0 Z = true) (hd : decode c.code pc = .ok (.ldc2_w index, 3)) (hp : pc + 3 = pc') (k : own_G p e below P (T.setTop (mkF m pc' Ls (.long v :: st)))) : own_G p e below P (T.setTop (mkF m pc Ls st)) := by
  subst hp; exact own_fw (X.ldc2Long hx hown (mvT hZ w1) (g := mkF m pc Ls st) rfl hd) k
theorem own_iadd {x y : Int32} (X : Stand p l e R s m args below meth c T locs cells slots) (hx : p.tables.exec = Jvm.exec) (hd : decode c.code pc = .ok (.iadd, 1)) (hp : pc + 1 = pc') (k : own_G p e below P (T.setTop (mkF m pc' Ls (.int (x + y) :: st)))) : own_G p e below P (T.setTop (mkF m pc Ls (.int y :: .int x :: st))) := by
  subst hp; exact own_fw (fun t q => XS.iadd X.here hx rfl hd rfl q) k
theorem own_isub {x y : Int32} (X : Stand p l e R s m args below meth c T locs cells slots) (hx : p.tables.exec = Jvm.exec) (hd : decode c.code pc = .ok (.isub, 1)) (hp : pc + 1 = pc') (k : own_G p e below P (T.setTop (mkF m pc' Ls (.int (x - y) :: st)))) : own_G p e below P (T.setTop (mkF m pc Ls (.int y :: .int x :: st))) := by
  subst hp; exact own_fw (fun t q => XS.isub X.here hx rfl hd rfl q) k
theorem own_imul {x y : Int32} (X : Stand p l e R s m args below meth c T locs cells slots) (hx : p.tables.exec = Jvm.exec) (hd : decode c.code pc = .ok (.imul, 1)) (hp : pc + 1 = pc') (k : own_G p e below P (T.setTop (mkF m pc' Ls (.int (x * y) :: st)))) : own_G p e below P (T.setTop (mkF m pc Ls (.int y :: .int x :: st))) := by
  subst hp; exact own_fw (fun t q => XS.imul X.here hx rfl hd rfl q) k
theorem own_iand {x y : Int32} (X : Stand p l e R s m args below meth c T locs cells slots) (hx : p.tables.exec = Jvm.exec) (hd : decode c.code pc = .ok (.iand, 1)) (hp : pc + 1 = pc') (k : own_G p e below P (T.setTop (mkF m pc' Ls (.int (x &&& y) :: st)))) : own_G p e below P (T.setTop (mkF m pc Ls (.int y :: .int x :: st))) := by
  subst hp; exact own_fw (fun t q => XS.iand X.here hx rfl hd rfl q) k
theorem own_ior {x y : Int32} (X : Stand p l e R s m args below meth c T locs cells slots) (hx : p.tables.exec = Jvm.exec) (hd : decode c.code pc = .ok (.ior, 1)) (hp : pc + 1 = pc') (k : own_G p e below P (T.setTop (mkF m pc' Ls (.int (x ||| y) :: st)))) : own_G p e below P (T.setTop (mkF m pc Ls (.int y :: .int x :: st))) := by
  subst hp; exact own_fw (fun t q => XS.ior X.here hx rfl hd rfl q) k
theorem own_ixor {x y : Int32} (X : Stand p l e R s m args below meth c T locs cells slots) (hx : p.tables.exec = Jvm.exec) (hd : decode c.code pc = .ok (.ixor, 1)) (hp : pc + 1 = pc') (k : own_G p e below P (T.setTop (mkF m pc' Ls (.int (x ^^^ y) :: st)))) : own_G p e below P (T.setTop (mkF m pc Ls (.int y :: .int x :: st))) := by
  subst hp; exact own_fw (fun t q => XS.ixor X.here hx rfl hd rfl q) k
theorem own_ishl {x y : Int32} (X : Stand p l e R s m args below meth c T locs cells slots) (hx : p.tables.exec = Jvm.exec) (hd : decode c.code pc = .ok (.ishl, 1)) (hp : pc + 1 = pc') (k : own_G p e below P (T.setTop (mkF m pc' Ls (.int (x <<< (y &&& 31)) :: st)))) : own_G p e below P (T.setTop (mkF m pc Ls (.int y :: .int x :: st))) := by
  subst hp; exact own_fw (fun t q => XS.ishl X.here hx rfl hd rfl q) k
theorem own_ishr {x y : Int32} (X : Stand p l e R s m args below meth c T locs cells slots) (hx : p.tables.exec = Jvm.exec) (hd : decode c.code pc = .ok (.ishr, 1)) (hp : pc + 1 = pc') (k : own_G p e below P (T.setTop (mkF m pc' Ls (.int (x >>> (y &&& 31)) :: st)))) : own_G p e below P (T.setTop (mkF m pc Ls (.int y :: .int x :: st))) := by
  subst hp; exact own_fw (fun t q => XS.ishr X.here hx rfl hd rfl q) k
theorem own_iushr {x y : Int32} (X : Stand p l e R s m args below meth c T locs cells slots) (hx : p.tables.exec = Jvm.exec) (hd : decode c.code pc = .ok (.iushr, 1)) (hp : pc + 1 = pc') (k : own_G p e below P (T.setTop (mkF m pc' Ls (.int ((x.toUInt32 >>> (y &&& 31).toUInt32).toInt32) :: st)))) : own_G p e below P (T.setTop (mkF m pc Ls (.int y :: .int x :: st))) := by
  subst hp; exact own_fw (fun t q => XS.iushr X.here hx rfl hd rfl q) k
theorem own_ladd {x y : Int64} (X : Stand p l e R s m args below meth c T locs cells slots) (hx : p.tables.exec = Jvm.exec) (hd : decode c.code pc = .ok (.ladd, 1)) (hp : pc + 1 = pc') (k : own_G p e below P (T.setTop (mkF m pc' Ls (.long (x + y) :: st)))) : own_G p e below P (T.setTop (mkF m pc Ls (.long y :: .long x :: st))) := by
  subst hp; exact own_fw (fun t q => XS.ladd X.here hx rfl hd rfl q) k
theorem own_lsub {x y : Int64} (X : Stand p l e R s m args below meth c T locs cells slots) (hx : p.tables.exec = Jvm.exec) (hd : decode c.code pc = .ok (.lsub, 1)) (hp : pc + 1 = pc') (k : own_G p e below P (T.setTop (mkF m pc' Ls (.long (x - y) :: st)))) : own_G p e below P (T.setTop (mkF m pc Ls (.long y :: .long x :: st))) := by
  subst hp; exact own_fw (fun t q => XS.lsub X.here hx rfl hd rfl q) k
theorem own_lmul {x y : Int64} (X : Stand p l e R s m args below meth c T locs cells slots) (hx : p.tables.exec = Jvm.exec) (hd : decode c.code pc = .ok (.lmul, 1)) (hp : pc + 1 = pc') (k : own_G p e below P (T.setTop (mkF m pc' Ls (.long (x * y) :: st)))) : own_G p e below P (T.setTop (mkF m pc Ls (.long y :: .long x :: st))) := by
  subst hp; exact own_fw (fun t q => XS.lmul X.here hx rfl hd rfl q) k
theorem own_land {x y : Int64} (X : Stand p l e R s m args below meth c T locs cells slots) (hx : p.tables.exec = Jvm.exec) (hd : decode c.code pc = .ok (.land, 1)) (hp : pc + 1 = pc') (k : own_G p e below P (T.setTop (mkF m pc' Ls (.long (x &&& y) :: st)))) : own_G p e below P (T.setTop (mkF m pc Ls (.long y :: .long x :: st))) := by
  subst hp; exact own_fw (fun t q => XS.land X.here hx rfl hd rfl q) k
theorem own_lor {x y : Int64} (X : Stand p l e R s m args below meth c T locs cells slots) (hx : p.tables.exec = Jvm.exec) (hd : decode c.code pc = .ok (.lor, 1)) (hp : pc + 1 = pc') (k : own_G p e below P (T.setTop (mkF m pc' Ls (.long (x ||| y) :: st)))) : own_G p e below P (T.setTop (mkF m pc Ls (.long y :: .long x :: st))) := by
  subst hp; exact own_fw (fun t q => XS.lor X.here hx rfl hd rfl q) k
theorem own_lxor {x y : Int64} (X : Stand p l e R s m args below meth c T locs cells slots) (hx : p.tables.exec = Jvm.exec) (hd : decode c.code pc = .ok (.lxor, 1)) (hp : pc + 1 = pc') (k : own_G p e below P (T.setTop (mkF m pc' Ls (.long (x ^^^ y) :: st)))) : own_G p e below P (T.setTop (mkF m pc Ls (.long y :: .long x :: st))) := by
  subst hp; exact own_fw (fun t q => XS.lxor X.here hx rfl hd rfl q) k
theorem own_lshl {x : Int64} {y : Int32} (X : Stand p l e R s m args below meth c T locs cells slots) (hx : p.tables.exec = Jvm.exec) (hd : decode c.code pc = .ok (.lshl, 1)) (hp : pc + 1 = pc') (k : own_G p e below P (T.setTop (mkF m pc' Ls (.long (x <<< (y &&& 0x3f).toInt64) :: st)))) : own_G p e below P (T.setTop (mkF m pc Ls (.int y :: .long x :: st))) := by
  subst hp; exact own_fw (fun t q => XS.lshl X.here hx rfl hd rfl q) k
theorem own_lshr {x : Int64} {y : Int32} (X : Stand p l e R s m args below meth c T locs cells slots) (hx : p.tables.exec = Jvm.exec) (hd : decode c.code pc = .ok (.lshr, 1)) (hp : pc + 1 = pc') (k : own_G p e below P (T.setTop (mkF m pc' Ls (.long (x >>> (y &&& 0x3f).toInt64) :: st)))) : own_G p e below P (T.setTop (mkF m pc Ls (.int y :: .long x :: st))) := by
  subst hp; exact own_fw (fun t q => XS.lshr X.here hx rfl hd rfl q) k
theorem own_lushr {x : Int64} {y : Int32} (X : Stand p l e R s m args below meth c T locs cells slots) (hx : p.tables.exec = Jvm.exec) (hd : decode c.code pc = .ok (.lushr, 1)) (hp : pc + 1 = pc') (k : own_G p e below P (T.setTop (mkF m pc' Ls (.long ((x.toUInt64 >>> (y &&& 0x3f).toInt64.toUInt64).toInt64) :: st)))) : own_G p e below P (T.setTop (mkF m pc Ls (.int y :: .long x :: st))) := by
  subst hp; exact own_fw (fun t q => XS.lushr X.here hx rfl hd rfl q) k
theorem own_idiv {x y : Int32} (X : Stand p l e R s m args below meth c T locs cells slots) (hx : p.tables.exec = Jvm.exec) (hd : decode c.code pc = .ok (.idiv, 1)) (hy : y ≠ 0) (hp : pc + 1 = pc') (k : own_G p e below P (T.setTop (mkF m pc' Ls (.int (x / y) :: st)))) : own_G p e below P (T.setTop (mkF m pc Ls (.int y :: .int x :: st))) := by
  subst hp; exact own_fw (fun t q => XS.idiv X.here hx rfl hd rfl hy q) k
theorem own_ldiv {x y : Int64} (X : Stand p l e R s m args below meth c T locs cells slots) (hx : p.tables.exec = Jvm.exec) (hd : decode c.code pc = .ok (.ldiv, 1)) (hy : y ≠ 0) (hp : pc + 1 = pc') (k : own_G p e below P (T.setTop (mkF m pc' Ls (.long (x / y) :: st)))) : own_G p e below P (T.setTop (mkF m pc Ls (.long y :: .long x :: st))) := by
  subst hp; exact own_fw (fun t q => XS.ldiv X.here hx rfl hd rfl hy q) k
theorem own_irem {x y : Int32} (X : Stand p l e R s m args below meth c T locs cells slots) (hx : p.tables.exec = Jvm.exec) (hd : decode c.code pc = .ok (.irem, 1)) (hy : y ≠ 0) (hp : pc + 1 = pc') (k : own_G p e below P (T.setTop (mkF m pc' Ls (.int (x % y) :: st)))) : own_G p e below P (T.setTop (mkF m pc Ls (.int y :: .int x :: st))) := by
  subst hp; exact own_fw (fun t q => iremM X hx rfl hd rfl hy q) k
theorem own_lrem {x y : Int64} (X : Stand p l e R s m args below meth c T locs cells slots) (hx : p.tables.exec = Jvm.exec) (hd : decode c.code pc = .ok (.lrem, 1)) (hy : y ≠ 0) (hp : pc + 1 = pc') (k : own_G p e below P (T.setTop (mkF m pc' Ls (.long (x % y) :: st)))) : own_G p e below P (T.setTop (mkF m pc Ls (.long y :: .long x :: st))) := by
  subst hp; rw [← lrem_mod] at k; exact own_fw (fun t q => XS.lrem X.here hx rfl hd rfl hy q) k
theorem own_ineg {x : Int32} (X : Stand p l e R s m args below meth c T locs cells slots) (hx : p.tables.exec = Jvm.exec) (hd : decode c.code pc = .ok (.ineg, 1)) (hp : pc + 1 = pc') (k : own_G p e below P (T.setTop (mkF m pc' Ls (.int (-x) :: st)))) : own_G p e below P (T.setTop (mkF m pc Ls (.int x :: st))) := by
  subst hp; exact own_fw (fun t q => XS.ineg X.here hx rfl hd rfl q) k
theorem own_lneg {x : Int64} (X : Stand p l e R s m args below meth c T locs cells slots) (hx : p.tables.exec = Jvm.exec) (hd : decode c.code pc = .ok (.lneg, 1)) (hp : pc + 1 = pc') (k : own_G p e below P (T.setTop (mkF m pc' Ls (.long (-x) :: st)))) : own_G p e below P (T.setTop (mkF m pc Ls (.long x :: st))) := by
  subst hp; exact own_fw (fun t q => XS.lneg X.here hx rfl hd rfl q) k
theorem own_i2l {x : Int32} (X : Stand p l e R s m args below meth c T locs cells slots) (hx : p.tables.exec = Jvm.exec) (hd : decode c.code pc = .ok (.i2l, 1)) (hp : pc + 1 = pc') (k : own_G p e below P (T.setTop (mkF m pc' Ls (.long x.toInt64 :: st)))) : own_G p e below P (T.setTop (mkF m pc Ls (.int x :: st))) := by
  subst hp; exact own_fw (fun t q => XS.i2l X.here hx rfl hd rfl q) k
theorem own_l2i {x : Int64} (X : Stand p l e R s m args below meth c T locs cells slots) (hx : p.tables.exec = Jvm.exec) (hd : decode c.code pc = .ok (.l2i, 1)) (hp : pc + 1 = pc') (k : own_G p e below P (T.setTop (mkF m pc' Ls (.int x.toInt32 :: st)))) : own_G p e below P (T.setTop (mkF m pc Ls (.long x :: st))) := by
  subst hp; exact own_fw (fun t q => XS.l2i X.here hx rfl hd rfl q) k
theorem own_i2b {x : Int32} (X : Stand p l e R s m args below meth c T locs cells slots) (hx : p.tables.exec = Jvm.exec) (hd : decode c.code pc = .ok (.i2b, 1)) (hp : pc + 1 = pc') (k : own_G p e below P (T.setTop (mkF m pc' Ls (.int x.toInt8.toInt32 :: st)))) : own_G p e below P (T.setTop (mkF m pc Ls (.int x :: st))) := by
  subst hp; exact own_fw (fun t q => XS.i2b X.here hx rfl hd rfl q) k
theorem own_lcmp {x y : Int64} (X : Stand p l e R s m args below meth c T locs cells slots) (hx : p.tables.exec = Jvm.exec) (hd : decode c.code pc = .ok (.lcmp, 1)) (hp : pc + 1 = pc') (k : own_G p e below P (T.setTop (mkF m pc' Ls (.int (lcmpW x y) :: st)))) : own_G p e below P (T.setTop (mkF m pc Ls (.long y :: .long x :: st))) := by
  subst hp; exact own_fw (fun t q => XS.lcmp X.here hx rfl hd rfl q) k
theorem own_dup {x : Value} (X : Stand p l e R s m args below meth c T locs cells slots) (hx : p.tables.exec = Jvm.exec) (hd : decode c.code pc = .ok (.dup, 1)) (hc : x.category = 1) (hp : pc + 1 = pc') (k : own_G p e below P (T.setTop (mkF m pc' Ls (x :: x :: st)))) : own_G p e below P (T.setTop (mkF m pc Ls (x :: st))) := by
  subst hp; exact own_fw (fun t q => XS.dup X.here hx rfl hd rfl hc q) k
theorem own_pop {x : Value} (X : Stand p l e R s m args below meth c T locs cells slots) (hx : p.tables.exec = Jvm.exec) (hd : decode c.code pc = .ok (.pop, 1)) (hc : x.category = 1) (hp : pc + 1 = pc') (k : own_G p e below P (T.setTop (mkF m pc' Ls st))) : own_G p e below P (T.setTop (mkF m pc Ls (x :: st))) := by
  subst hp; exact own_fw (fun t q => XS.pop X.here hx rfl hd rfl hc q) k
theorem own_dupX1 {x y : Value} (X : Stand p l e R s m args below meth c T locs cells slots) (hx : p.tables.exec = Jvm.exec) (hd : decode c.code pc = .ok (.dup_x1, 1)) (hc : x.category = 1) (hc' : y.category = 1) (hp : pc + 1 = pc') (k : own_G p e below P (T.setTop (mkF m pc' Ls (x :: y :: x :: st)))) : own_G p e below P (T.setTop (mkF m pc Ls (x :: y :: st))) := by
  subst hp; exact own_fw (fun t q => XS.dupX1 X.here hx rfl hd rfl hc hc' q) k
theorem own_dup2 {x y : Value} (X : Stand p l e R s m args below meth c T locs cells slots) (hx : p.tables.exec = Jvm.exec) (hd : decode c.code pc = .ok (.dup2, 1)) (hc : x.category = 1) (hc' : y.category = 1) (hp : pc + 1 = pc') (k : own_G p e below P (T.setTop (mkF m pc' Ls (x :: y :: x :: y :: st)))) : own_G p e below P (T.setTop (mkF m pc Ls (x :: y :: st))) := by
  subst hp; exact own_fw (fun t q => XT.dup2 X.here hx rfl hd rfl hc hc' q) k
theorem own_iinc {i : Nat} {cst : Int} {x z : Int32} (X : Stand p l e R s m args below meth c T locs cells slots) (hx : p.tables.exec = Jvm.exec) (hd : decode c.code pc = .ok (.iinc i cst, 3)) (hl : Ls[i]? = some (.val (.int x))) (hz : Int32.ofInt cst = z) {l' : Array Slot} (hl' : storeLocals Ls i (.int (x + z)) = some l') (hp : pc + 3 = pc') (k : own_G p e below P (T.setTop (mkF m pc' l' st))) : own_G p e below P (T.setTop (mkF m pc Ls st)) := by
  subst hp hz; exact own_fw (fun t q => XS.iinc X.here hx rfl hd hl hl' q) k
theorem own_goto {o : Int} (X : Stand p l e R s m args below meth c T locs cells slots) (hx : p.tables.exec = Jvm.exec) (hd : decode c.code pc = .ok (.goto o, 3)) (ho : 0 ≤ (pc : Int) + o) (hp : ((pc : Int) + o).toNat = pc') (k : own_G p e below P (T.setTop (mkF m pc' Ls st))) : own_G p e below P (T.setTop (mkF m pc Ls st)) := own_fw (fun t q => XS.goto X.here hx rfl (pc0 := pc) rfl hd ho hp q) k
theorem own_icmpT {o : Int} {cd : ClassFile.Cond} {x y : Int32} (X : Stand p l e R s m args below meth c T locs cells slots) (hx : p.tables.exec = Jvm.exec) (hd : decode c.code pc = .ok (.if_icmp cd o, 3)) (hc : if_icmp.holds cd x y = true) (ho : 0 ≤ (pc : Int) + o) (hp : ((pc : Int) + o).toNat = pc') (k : own_G p e below P (T.setTop (mkF m pc' Ls st))) : own_G p e below P (T.setTop (mkF m pc Ls (.int y :: .int x :: st))) := own_fw (fun t q => XS.icmpYes X.here hx rfl (pc0 := pc) rfl hd rfl hc ho hp q) k
theorem own_icmpF {o : Int} {cd : ClassFile.Cond} {x y : Int32} (X : Stand p l e R s m args below meth c T locs cells slots) (hx : p.tables.exec = Jvm.exec) (hd : decode c.code pc = .ok (.if_icmp cd o, 3)) (hc : if_icmp.holds cd x y = false) (hp : pc + 3 = pc') (k : own_G p e below P (T.setTop (mkF m pc' Ls st))) : own_G p e below P (T.setTop (mkF m pc Ls (.int y :: .int x :: st))) := by
  subst hp; exact own_fw (fun t q => XS.icmpNo X.here hx rfl hd rfl hc q) k
theorem own_ifT {o : Int} {cd : ClassFile.Cond} {x : Int32} (X : Stand p l e R s m args below meth c T locs cells slots) (hx : p.tables.exec = Jvm.exec) (hd : decode c.code pc = .ok (.ifCond cd o, 3)) (hc : if_icmp.holds cd x 0 = true) (ho : 0 ≤ (pc : Int) + o) (hp : ((pc : Int) + o).toNat = pc') (k : own_G p e below P (T.setTop (mkF m pc' Ls st))) : own_G p e below P (T.setTop (mkF m pc Ls (.int x :: st))) := own_fw (fun t q => XS.ifYes X.here hx rfl (pc0 := pc) rfl hd rfl ((if0 cd x).trans hc) ho hp q) k
theorem own_ifF {o : Int} {cd : ClassFile.Cond} {x : Int32} (X : Stand p l e R s m args below meth c T locs cells slots) (hx : p.tables.exec = Jvm.exec) (hd : decode c.code pc = .ok (.ifCond cd o, 3)) (hc : if_icmp.holds cd x 0 = false) (hp : pc + 3 = pc') (k : own_G p e below P (T.setTop (mkF m pc' Ls st))) : own_G p e below P (T.setTop (mkF m pc Ls (.int x :: st))) := by
  subst hp; exact own_fw (fun t q => XS.ifNo X.here hx rfl hd rfl ((if0 cd x).trans hc) q) k
theorem own_ltL {x y : Int64} (h : x < y) : if_icmp.holds .lt (lcmpW x y) 0 = true ∧ if_icmp.holds .ge (lcmpW x y) 0 = false ∧ if_icmp.holds .gt (lcmpW y x) 0 = true ∧ if_icmp.holds .le (lcmpW y x) 0 = false := by
  have h1 := (lw_lt x y).mpr h
  have h2 := (lw_gt y x).mpr h
  exact ⟨(tlt h1).1, (tlt h1).2.1, (tlt h2).2.2.1, (tlt h2).2.2.2⟩
theorem own_geL {x y : Int64} (h : ¬ x < y) : if_icmp.holds .lt (lcmpW x y) 0 = false ∧ if_icmp.holds .ge (lcmpW x y) 0 = true ∧ if_icmp.holds .gt (lcmpW y x) 0 = false ∧ if_icmp.holds .le (lcmpW y x) 0 = true := by
  have h1 : ¬ lcmpW x y < 0 := fun q => h ((lw_lt x y).mp q)
  have h2 : ¬ 0 < lcmpW y x := fun q => h ((lw_gt y x).mp q)
  exact ⟨(flt h1).1, (flt h1).2.1, (flt h2).2.2.1, (flt h2).2.2.2⟩
theorem own_eqL {x y : Int64} (h : x = y) : if_icmp.holds .eq (lcmpW x y) 0 = true ∧ if_icmp.holds .ne (lcmpW x y) 0 = false := teq ((lw_eq x y).mpr h)
theorem own_neL {x y : Int64} (h : ¬ x = y) : if_icmp.holds .eq (lcmpW x y) 0 = false ∧ if_icmp.holds .ne (lcmpW x y) 0 = true := feq (fun q => h ((lw_eq x y).mp q))
theorem own_bT {P : Prop} [Decidable P] (h : P) : if_icmp.holds .eq (if P then (1 : Int32) else 0) 0 = false ∧ if_icmp.holds .ne (if P then (1 : Int32) else 0) 0 = true := by rw [if_pos h]; exact ⟨rfl, rfl⟩
theorem own_bF {P : Prop} [Decidable P] (h : ¬ P) : if_icmp.holds .eq (if P then (1 : Int32) else 0) 0 = true ∧ if_icmp.holds .ne (if P then (1 : Int32) else 0) 0 = false := by rw [if_neg h]; exact ⟨rfl, rfl⟩
theorem own_b01 {P : Prop} [Decidable P] : (if P then (1 : Int32) else 0) = 0 ∨ (if P then (1 : Int32) else 0) = 1 := by by_cases h : P <;> simp [h]
theorem own_ifnonnullT {o : Int} {b : Addr} (X : Stand p l e R s m args below meth c T locs cells slots) (hx : p.tables.exec = Jvm.exec) (hd : decode c.code pc = .ok (.ifnonnull o, 3)) (ho : 0 ≤ (pc : Int) + o) (hp : ((pc : Int) + o).toNat = pc') (k : own_G p e below P (T.setTop (mkF m pc' Ls st))) : own_G p e below P (T.setTop (mkF m pc Ls (.ref b :: st))) := own_fw (fun t q => XS.ifnonnullYes X.here hx rfl (pc0 := pc) rfl hd rfl ho hp q) k
theorem own_ifnonnullF {o : Int} (X : Stand p l e R s m args below meth c T locs cells slots) (hx : p.tables.exec = Jvm.exec) (hd : decode c.code pc = .ok (.ifnonnull o, 3)) (hp : pc + 3 = pc') (k : own_G p e below P (T.setTop (mkF m pc' Ls st))) : own_G p e below P (T.setTop (mkF m pc Ls (.null :: st))) := by
  subst hp; exact own_fw (fun t q => XS.ifnonnullNo X.here hx rfl hd rfl q) k
theorem own_ifnullT {o : Int} (X : Stand p l e R s m args below meth c T locs cells slots) (hx : p.tables.exec = Jvm.exec) (hd : decode c.code pc = .ok (.ifnull o, 3)) (ho : 0 ≤ (pc : Int) + o) (hp : ((pc : Int) + o).toNat = pc') (k : own_G p e below P (T.setTop (mkF m pc' Ls st))) : own_G p e below P (T.setTop (mkF m pc Ls (.null :: st))) := own_fw (fun t q => XS.ifnullYes X.here hx rfl (pc0 := pc) rfl hd rfl ho hp q) k
theorem own_ifnullF {o : Int} {b : Addr} (X : Stand p l e R s m args below meth c T locs cells slots) (hx : p.tables.exec = Jvm.exec) (hd : decode c.code pc = .ok (.ifnull o, 3)) (hp : pc + 3 = pc') (k : own_G p e below P (T.setTop (mkF m pc' Ls st))) : own_G p e below P (T.setTop (mkF m pc Ls (.ref b :: st))) := by
  subst hp; exact own_fw (fun t q => XS.ifnullNo X.here hx rfl hd rfl q) k
theorem own_acmpT {o : Int} {cd : ACond} {x y : Value} (X : Stand p l e R s m args below meth c T locs cells slots) (hx : p.tables.exec = Jvm.exec) (hd : decode c.code pc = .ok (.if_acmp cd o, 3)) (h1 : x.isRef = true) (h2 : y.isRef = true) (hc : XT.acmp cd x y = true) (ho : 0 ≤ (pc : Int) + o) (hp : ((pc : Int) + o).toNat = pc') (k : own_G p e below P (T.setTop (mkF m pc' Ls st))) : own_G p e below P (T.setTop (mkF m pc Ls (y :: x :: st))) := own_fw (fun t q => XT.acmpYes X.here hx rfl (pc0 := pc) rfl hd rfl h1 h2 hc ho hp q) k
theorem own_acmpF {o : Int} {cd : ACond} {x y : Value} (X : Stand p l e R s m args below meth c T locs cells slots) (hx : p.tables.exec = Jvm.exec) (hd : decode c.code pc = .ok (.if_acmp cd o, 3)) (h1 : x.isRef = true) (h2 : y.isRef = true) (hc : XT.acmp cd x y = false) (hp : pc + 3 = pc') (k : own_G p e below P (T.setTop (mkF m pc' Ls st))) : own_G p e below P (T.setTop (mkF m pc Ls (y :: x :: st))) := by
  subst hp; exact own_fw (fun t q => XT.acmpNo X.here hx rfl hd rfl h1 h2 hc q) k
theorem own_getF (X : Stand p l e R s m args below meth c T locs cells slots) (hx : p.tables.exec = Jvm.exec) (hZ : Z.Warmed39 s.vm) {own O n d : String} {index : Nat} (hown : s.vm.findClass own = some m.cls) (w1 : (Jvm.Cond.fieldLink own index O n d).before a0 Z = true) (eT : T.heap = h) {a : Addr} {v : Value} (F : Fld Z h a O n d v) (hd : decode c.code pc = .ok (.getfield index, 3)) (hp : pc + 3 = pc')
    (k : ∀ T' : State, Stand p l e R s m args below meth c T' locs cells slots → T'.heap = h → own_G p e below P (T'.setTop (mkF m pc' Ls (v :: st)))) : own_G p e below P (T.setTop (mkF m pc Ls (.ref a :: st))) := by
  subst hp
  obtain ⟨T', X', e', st'⟩ := getF X hx hZ hown (host := "") (Or.inl w1) Via.refl eT F (g := mkF m pc Ls (.ref a :: st)) rfl rfl hd
  exact own_fw st' (k T' X' e')
theorem own_putF (X : Stand p l e R s m args below meth c T locs cells slots) (hx : p.tables.exec = Jvm.exec) (hZ : Z.Warmed39 s.vm) {own O n d C : String} {index kk : Nat} {ty : FieldType} (hown : s.vm.findClass own = some m.cls) (w1 : (Jvm.Cond.fieldLink own index O n d).before a0 Z = true) (eT : T.heap = h) {a : Addr} {v old : Value} (F : Fld Z h a O n d old) (E : Exa Z h a C) (L : (Jvm.Cond.lays C O n d).before a0 Z = true ∨ ((Jvm.Cond.laysFinal C O n d).before a0 Z = true ∧ own = O ∧ meth.name = "<init>")) (wi : (Jvm.Cond.instantiable C kk).before a0 Z = true) (hty : parseFieldDescriptor d = some ty) (hn : narrow ty v = v) (hf : fits ty v = true) (hd : decode c.code pc = .ok (.putfield index, 3)) (hp : pc + 3 = pc')
    (k : ∀ (T' : State) (h' : Heap), Stand p l e R s m args below meth c T' (locs ++ [⟨a, RoadKit.slotOf Z O n d⟩]) cells slots → T'.heap = h' → Wr h h' a (RoadKit.slotOf Z O n d) v → own_G p e below P (T'.setTop (mkF m pc' Ls st))) : own_G p e below P (T.setTop (mkF m pc Ls (v :: .ref a :: st))) := by
  subst hp
  obtain ⟨T', h', X', e', W', st'⟩ := putF X hx hZ hown (host := "") (Or.inl w1) Via.refl eT F E L wi hty hn hf (g := mkF m pc Ls (v :: .ref a :: st)) rfl rfl hd
  exact own_fw st' (k T' h' X' e' W')
theorem own_new (X : Stand p l e R s m args below meth c T locs cells slots) (hx : p.tables.exec = Jvm.exec) (hZ : Z.Warmed39 s.vm) {own C : String} {index n : Nat} (hown : s.vm.findClass own = some m.cls) (w1 : (Jvm.Cond.classLink own index C).before a0 Z = true) (wi : (Jvm.Cond.instantiable C n).before a0 Z = true) (wz : (Jvm.Cond.initialized C).before a0 Z = true) (eT : T.heap = h) (hd : decode c.code pc = .ok (.new index, 3)) (hp : pc + 3 = pc') (hc : cells + 1 ≤ R.cells) (hl : slots + n ≤ R.slots)
    (k : ∀ (T' : State) (h' : Heap) (a : Addr), a = h.size → Stand p l e R s m args below meth c T' locs (cells + 1) (slots + n) → T'.heap = h' → Ext h h' → Exa Z h' a C → (∀ {O nm d : String} {ty : FieldType}, Laid Z a0 C O nm d → parseFieldDescriptor d = some ty → Fld Z h' a O nm d (defaultValue ty)) → own_G p e below P (T'.setTop (mkF m pc' Ls (.ref a :: st)))) : own_G p e below P (T.setTop (mkF m pc Ls st)) := by
  subst hp
  obtain ⟨T', h', X', e', E', A', D', -, st'⟩ := newO X hx hZ hown w1 wi wz eT (g := mkF m pc Ls st) rfl hd hc hl
  exact own_fw st' (k T' h' h.size rfl X' e' E' A' D')
theorem own_initO (X : Stand p l e R s m args below meth c T locs cells slots) (hx : p.tables.exec = Jvm.exec) (hZ : Z.Warmed39 s.vm) {own : String} {idx : Nat} (hown : s.vm.findClass own = some m.cls) (w1 : (Jvm.Cond.methodLink own idx Lib.objectInit).before a0 Z = true) (w2 : (Jvm.Cond.instanceMethod Lib.objectInit).before a0 Z = true) (w3 : (Jvm.Cond.code Lib.objectInit object_method_1_code 1 none).before a0 Z = true) (eT : T.heap = h) (hsize : Ls.size = c.maxLocals) {a : Addr} (hd : decode c.code pc = .ok (.invokespecial idx, 3)) (hf : 1 ≤ R.frames) {W : Nat} (hW : (st.map fun v => v.category).sum ≤ W) (hl : W + 12 ≤ R.locals) (hp : pc + 3 = pc')
    (k : ∀ T' : State, Stand p l e R s m args below meth c T' locs cells slots → T'.heap = h → own_G p e below P (T'.setTop (mkF m pc' Ls st))) : own_G p e below P (T.setTop (mkF m pc Ls (.ref a :: st))) := by
  subst hp
  obtain ⟨T', X', e', st'⟩ := initO X hx hZ hown w1 w2 w3 eT (g := mkF m pc Ls (.ref a :: st)) rfl hsize rfl hd hf (W := W) (by show 2 * 0 + _ ≤ _; omega) hl
  exact own_fw st' (k T' X' e')
theorem own_callS (X : Stand p l e R s m args below meth c T locs cells slots) (hx : p.tables.exec = Jvm.exec) (hZ : Z.Warmed39 s.vm) {own : String} {index : Nat} {y : MethodName} {bytes : ByteArray} {maxL : Nat} {ret : Option FieldType} (hown : s.vm.findClass own = some m.cls) (w1 : (Jvm.Cond.methodLink own index y).before a0 Z = true) (w2 : (Jvm.Cond.static y).before a0 Z = true) (w3 : (Jvm.Cond.initialized y.cls).before a0 Z = true) (w4 : (Jvm.Cond.code y bytes maxL ret).before a0 Z = true) (hy : y.cls ≠ "java/lang/invoke/MethodHandle" ∧ y.cls ≠ "java/lang/invoke/VarHandle") {rm : Room} {as' : List Value} {Q' : Option Value → Heap → List Loc → Prop} (hM : own_M l Z y bytes maxL ret [] rm as'.toArray h Q' rm.cells rm.slots) (eT : T.heap = h) {W : Nat} (hf : rm.frames + 1 ≤ R.frames) (hl : W + (maxL + 11) + rm.locals ≤ R.locals) {ps : List FieldType} {r : Option FieldType} (pd : parseMethodDescriptor y.desc = some ⟨ps, r⟩) (hlen : as'.length = ps.length) {stk rest : List Value} (hstk : stk = as'.reverse ++ rest) (hd : decode c.code pc = .ok (.invokestatic index, 3)) (hW : (rest.map fun v => v.category).sum ≤ W) (hsize : Ls.size = c.maxLocals) (hc : cells + rm.cells ≤ R.cells) (hs : slots + rm.slots ≤ R.slots) (hp : pc + 3 = pc')
    (k : ∀ (v : Option Value) (T' : State) (L : List Loc), Stand p l e R s m args below meth c T' (locs ++ L) (cells + rm.cells) (slots + rm.slots) → Q' v T'.heap L → own_G p e below P (T'.setTop (mkF m pc' Ls (v.toList ++ rest)))) : own_G p e below P (T.setTop (mkF m pc Ls stk)) := by
  subst hp hstk
  obtain ⟨v, vm1, ⟨T', L', k', n'⟩, hWm, X', ⟨Lc, hQ', l', y', z'⟩, st'⟩ := Jvm.LawKit.callS X hx (y := y) hown (mvT hZ w1) (mvT hZ w2) (mvT hZ w3) (mvT hZ w4) hy (backOf (W := W) hM hZ w4 w3 hf hl) (g := mkF m pc Ls (as'.reverse ++ rest)) rfl hsize (argsL := as') (rest := rest) (lenOf pd hlen) rfl (by show 2 * 0 + _ ≤ _; omega) hd (fun _ _ => ⟨rfl, eT, hc, hs⟩)
  dsimp only [Pt.U, Pt.locs, Pt.cells, Pt.slots] at X' l' y' z' hQ'
  subst l' y' z'
  exact own_fw st' (k v T' Lc X' hQ')
theorem own_callC (X : Stand p l e R s m args below meth c T locs cells slots) (hx : p.tables.exec = Jvm.exec) (hZ : Z.Warmed39 s.vm) {own : String} {index : Nat} {y : MethodName} {bytes : ByteArray} {maxL : Nat} (hy1 : y.name = "<init>") (hown : s.vm.findClass own = some m.cls) (w1 : (Jvm.Cond.methodLink own index y).before a0 Z = true) (w2 : (Jvm.Cond.instanceMethod y).before a0 Z = true) (w3 : (Jvm.Cond.initialized y.cls).before a0 Z = true) (w4 : (Jvm.Cond.code y bytes maxL none).before a0 Z = true) (hy : y.cls ≠ "java/lang/invoke/MethodHandle" ∧ y.cls ≠ "java/lang/invoke/VarHandle") {a : Addr} {rm : Room} {as' : List Value} {Q' : Option Value → Heap → List Loc → Prop} (hM : own_M l Z y bytes maxL none [] rm (.ref a :: as').toArray h Q' rm.cells rm.slots) (eT : T.heap = h) {W : Nat} (hf : rm.frames + 1 ≤ R.frames) (hl : W + (maxL + 11) + rm.locals ≤ R.locals) {ps : List FieldType} {r : Option FieldType} (pd : parseMethodDescriptor y.desc = some ⟨ps, r⟩) (hlen : as'.length = ps.length) {stk rest : List Value} (hstk : stk = as'.reverse ++ .ref a :: rest) (hd : decode c.code pc = .ok (.invokespecial index, 3)) (hW : (rest.map fun v => v.category).sum ≤ W) (hsize : Ls.size = c.maxLocals) (hc : cells + rm.cells ≤ R.cells) (hs : slots + rm.slots ≤ R.slots) (hp : pc + 3 = pc')
    (k : ∀ (v : Option Value) (T' : State) (L : List Loc), Stand p l e R s m args below meth c T' (locs ++ L) (cells + rm.cells) (slots + rm.slots) → Q' v T'.heap L → own_G p e below P (T'.setTop (mkF m pc' Ls (v.toList ++ rest)))) : own_G p e below P (T.setTop (mkF m pc Ls stk)) := by
  subst hp hstk
  obtain ⟨v, vm1, ⟨T', L', k', n'⟩, hWm, X', ⟨Lc, hQ', l', y', z'⟩, st'⟩ := X.specialBack hx (y := y) hy1 hown (mvT hZ w1) (mvT hZ w2) (mvT hZ w4) hy (backOf (W := W) hM hZ w4 w3 hf hl) (g := mkF m pc Ls (as'.reverse ++ .ref a :: rest)) rfl hsize (Steps.refl _) (a := a) (argsL := as') (rest := rest) (lenOf pd hlen) rfl (by show 2 * 0 + _ ≤ _; omega) hd (fun _ _ => ⟨rfl, eT, hc, hs⟩)
  dsimp only [Pt.U, Pt.locs, Pt.cells, Pt.slots] at X' l' y' z' hQ'
  subst l' y' z'
  exact own_fw (fun t q => st'.trans q) (k v T' Lc X' hQ')
theorem own_callV (X : Stand p l e R s m args below meth c T locs cells slots) (hx : p.tables.exec = Jvm.exec) (hZ : Z.Warmed39 s.vm) {own C : String} {index : Nat} {y : MethodName} {bytes : ByteArray} {maxL : Nat} {ret : Option FieldType} (hown : s.vm.findClass own = some m.cls) (w1 : (Jvm.Cond.methodLink own index y).before a0 Z = true) (w2 : (Jvm.Cond.declares y).before a0 Z = true) (w3 : (Jvm.Cond.selects C y y).before a0 Z = true) (w4 : (Jvm.Cond.instanceMethod y).before a0 Z = true) (w5 : (Jvm.Cond.initialized y.cls).before a0 Z = true) (w6 : (Jvm.Cond.code y bytes maxL ret).before a0 Z = true) (hy : y.cls ≠ "java/lang/invoke/MethodHandle" ∧ y.cls ≠ "java/lang/invoke/VarHandle") {a : Addr} (E : Exa Z h a C) {rm : Room} {as' : List Value} {Q' : Option Value → Heap → List Loc → Prop} (hM : own_M l Z y bytes maxL ret [] rm (.ref a :: as').toArray h Q' rm.cells rm.slots) (eT : T.heap = h) {W : Nat} (hf : rm.frames + 1 ≤ R.frames) (hl : W + (maxL + 11) + rm.locals ≤ R.locals) {ps : List FieldType} {r : Option FieldType} (pd : parseMethodDescriptor y.desc = some ⟨ps, r⟩) (hlen : as'.length = ps.length) {stk rest : List Value} (hstk : stk = as'.reverse ++ .ref a :: rest) (hd : decode c.code pc = .ok (.invokevirtual index, 3)) (hW : (rest.map fun v => v.category).sum ≤ W) (hsize : Ls.size = c.maxLocals) (hc : cells + rm.cells ≤ R.cells) (hs : slots + rm.slots ≤ R.slots) (hp : pc + 3 = pc')
    (k : ∀ (v : Option Value) (T' : State) (L : List Loc), Stand p l e R s m args below meth c T' (locs ++ L) (cells + rm.cells) (slots + rm.slots) → Q' v T'.heap L → own_G p e below P (T'.setTop (mkF m pc' Ls (v.toList ++ rest)))) : own_G p e below P (T.setTop (mkF m pc Ls stk)) := by
  subst hp hstk
  obtain ⟨cq, kq, qa, qb, qc⟩ := isOf hZ eT E
  obtain ⟨v, vm1, ⟨T', L', k', n'⟩, hWm, X', ⟨Lc, hQ', l', y', z'⟩, st'⟩ := X.virtualBack hx (y := y) (z := y) hown (mvT hZ w1) (mvT hZ w2) (notFace_of_selects (args := #[]) (mvT hZ w3)) (mvT hZ w3) (mvT hZ w4) hy (backOf (W := W) hM hZ w6 w5 hf hl) qa qc (g := mkF m pc Ls (as'.reverse ++ .ref a :: rest)) rfl hsize (Steps.refl _) (argsL := as') (rest := rest) (lenOf pd hlen) rfl (by show 2 * 0 + _ ≤ _; omega) hd (fun _ _ => ⟨rfl, eT, hc, hs⟩)
  dsimp only [Pt.U, Pt.locs, Pt.cells, Pt.slots] at X' l' y' z' hQ'
  subst l' y' z'
  exact own_fw (fun t q => st'.trans q) (k v T' Lc X' hQ')
def own_PW (s : State) (Q : Option Value → Heap → List Loc → Prop) (ce sl : Nat) (s₂ : State) (o : Outcome) : Prop := ∃ v L, o = .returned v ∧ Q v s₂.heap L ∧ ReturnedEndW s o s₂ L ce sl
abbrev own_MW (l : Launch) (Z : State) (y : MethodName) (bytes : ByteArray) (maxL : Nat) (ret : Option FieldType) (ws : List Jvm.Cond) (rm : Room) (as' : Array Value) (h0 : Heap) (Q : Option Value → Heap → List Loc → Prop) (ce sl : Nat) : Prop := MetFree l y (head1 (Jvm.Cond.code y bytes maxL ret :: ws) rm) (fun a U => a = as' ∧ Z.Warmed39 U.vm ∧ U.heap = h0) (fun _ _ _ _ _ => True) (fun _ U o U' => ∃ v L, o = .returned v ∧ Q v U'.heap L ∧ ReturnedEndW U o U' L ce sl)
theorem own_bodyW {y : MethodName} {bytes : ByteArray} {maxL : Nat} {ret : Option FieldType} {ws : List Jvm.Cond} {rm : Room} {as' : Array Value} {h0 : Heap} (hp : plainFor y = true)
    (body : ∀ (p : Program) (e : Env) (s : State) (m : MethodId) (below : List Frame) (meth : Method) (c : Code) (s₁ : State), p.tables.exec = Jvm.exec → c.code = bytes → c.maxLocals = maxL → s.vm.findClass y.cls = some m.cls → meth.name = y.name → meth.sig.returnType = ret → meth.locks = false → Z.Warmed39 s.vm → Stand p l e rm s m as' below meth c s₁ [] 0 0 → s₁.heap = h0 → own_G p e below (own_PW s Q ce sl) (s₁.setTop (entryFrame m as' maxL))) : own_MW l Z y bytes maxL ret ws rm as' h0 Q ce sl := by
  refine MetFree.of_bodySF hp hisR ?_
  intro p e s m args below meth c s₁ Bd hml hP hK
  obtain ⟨rfl, hZ, hh⟩ := hP
  exact body p e s m below meth c s₁ Bd.exec Bd.bytes hml (findClass_of_methodNamed Bd.named) (name_of_methodNamed Bd.named Bd.method).1 Bd.returns Bd.notSynchronized hZ (Stand.of_body Bd) (by rw [← hh, Bd.state]; rfl)
theorem own_ldcS (X : Stand p l e R s m args below meth c T locs cells slots) (hx : p.tables.exec = Jvm.exec) (hZ : Z.Warmed39 s.vm) {own text : String} {index : Nat} (hown : s.vm.findClass own = some m.cls) (w1 : (Jvm.Cond.stringLink own index text).before a0 Z = true) (wS : ∀ a ∈ Bundle.stringAtoms, a.before a0 Z = true) (eT : T.heap = h) (hd : decode c.code pc = .ok (.ldc index, 2)) {n : Nat} (hn : 4 * text.toList.length ≤ n) (hbig : n ≤ 536870912) (hc : cells + 2 ≤ R.cells) (hl : slots + (n + 4) ≤ R.slots) (hp : pc + 2 = pc')
    (k : ∀ (a : Addr) (T' : State) (h' : Heap) (k1 : Nat), Stand p l e R (s.setVm T'.vm) m args below meth c T' locs (cells + 2) (slots + (n + 4)) → T'.heap = h' → Ext h h' → s.Since T'.vm k1 → k1 ≤ h'.size → Z.Warmed39 (s.setVm T'.vm).vm → (s.setVm T'.vm).vm.findClass own = some m.cls → own_G p e below P (T'.setTop (mkF m pc' Ls (.ref a :: st)))) : own_G p e below P (T.setTop (mkF m pc Ls st)) := by
  subst hp
  obtain ⟨a, T', h', k1, X', e', E', S', q', z', o', st'⟩ := ldcS (s := s) (vm0 := s.vm) X hx hZ hown w1 wS eT (State.WarmedH.since (State.WarmedH.refl s) 0) (Nat.zero_le _) (g := mkF m pc Ls st) rfl hd hn hbig hc hl
  exact own_fw st' (k a T' h' k1 X' e' E' S' q' z' o')
theorem own_retZW {vm1 : Vm} (X : Stand p l e R (s.setVm vm1) m args below meth c T locs cells slots) (hx : p.tables.exec = Jvm.exec) {k1 : Nat} (hS : s.Since vm1 k1) (hk : k1 ≤ T.heap.size) {z : Int32} (hret : meth.sig.returnType = some .boolean) (hlk : meth.locks = false) (hz : z = 0 ∨ z = 1) (hd : decode c.code pc = .ok (.ireturn, 1)) (hQ : Q (some (.int z)) T.heap locs) (hce : cells ≤ ce) (hsl : slots ≤ sl) : own_G p e below (own_PW s Q ce sl) (T.setTop (mkF m pc Ls (.int z :: st))) := by
  obtain ⟨fs, hr, hrun, hended, h1, h2, h3, h4⟩ := X.leaveW hS hk (v := some (.int z)) (fun h => by rw [hret] at h; cases h) hlk
  exact ⟨_, _, retOut X hx hret (by rcases hz with rfl | rfl <;> rfl) (Or.inl ⟨rfl, Or.inr (Or.inl rfl), z, rfl⟩) hd hr, hrun, hended, _, _, rfl, hQ, h1, h2, h3, h4.mono hce hsl⟩
end OwnHead
section OwnArr
variable {p : Program} {l : Launch} {e : Env} {R : Room} {s : State} {m : MethodId} {args : Array Value} {below : List Frame} {meth : Method} {c : Code} {T : State} {locs : List Loc} {cells slots : Nat} {Z : State} {a0 : Array Value} {h : Heap} {Q : Option Value → Heap → List Loc → Prop} {P : State → Outcome → Prop} {ce sl : Nat} {pc pc' : Nat} {Ls : Array Slot} {st : List Value} {h' : Heap} {a b : Addr} {ty : FieldType} {z : Int32} {ws : List Addr} {v : Value} {sx : Nat}
def own_AI (Z : State) (h : Heap) (a : Addr) (ty : FieldType) (z : Int32) (g : Nat → Int32) : Prop := ∃ c : Cell, Arr Z h a c ty ∧ c.slots.size = z.toNatClampNeg ∧ ¬ z < 0 ∧ ∀ i, i < c.slots.size → c.slots[i]? = some (.int (g i))
theorem own_AI.lt {g : Nat → Int32} (F : own_AI Z h a ty z g) : a < h.size := by obtain ⟨c, A, -⟩ := F; exact A.lt
theorem own_AI.ext {g : Nat → Int32} (F : own_AI Z h a ty z g) (E : Ext h h') : own_AI Z h' a ty z g := by obtain ⟨c, A, r⟩ := F; exact ⟨c, A.ext E, r⟩
theorem own_AI.other {g : Nat → Int32} (F : own_AI Z h a ty z g) (W : Wr h h' b sx v) (q : a ≠ b) : own_AI Z h' a ty z g := by obtain ⟨c, A, r⟩ := F; exact ⟨c, A.other W q, r⟩
theorem own_AI.keep {g : Nat → Int32} (F : own_AI Z h a ty z g) (Kp : Keep h h' ws) (q : a ∉ ws) : own_AI Z h' a ty z g := by obtain ⟨c, A, r⟩ := F; exact ⟨c, ⟨Kp.2.1 a c A.1 q, A.2⟩, r⟩
theorem own_AI.same {g g' : Nat → Int32} (F : own_AI Z h a ty z g) (q : ∀ i, i < z.toNatClampNeg → g' i = g i) : own_AI Z h a ty z g' := by obtain ⟨c, A, r1, r2, r3⟩ := F; exact ⟨c, A, r1, r2, fun i hi => by rw [q i (r1 ▸ hi)]; exact r3 i hi⟩
theorem own_AI.set {g g' : Nat → Int32} (F : own_AI Z h a ty z g) {j : Int32} {x : Int32} (W : Wr h h' a j.toNatClampNeg (.int x)) (q : ∀ i, i < z.toNatClampNeg → g' i = if i = j.toNatClampNeg then x else g i) : own_AI Z h' a ty z g' := by
  obtain ⟨c, A, r1, r2, r3⟩ := F
  refine ⟨_, A.same W, (sz_set _ _ _).trans r1, r2, fun i hi => ?_⟩
  rw [sz_set] at hi
  rw [q i (r1 ▸ hi)]
  by_cases e : i = j.toNatClampNeg
  · subst e; rw [if_pos rfl]; simp [Cell.setSlot, hi]
  · rw [if_neg e]; exact (Array.getElem?_setIfInBounds_ne (Ne.symm e)).trans (r3 i hi)
def own_LI (l : List Int32) (i : Nat) : Int32 := l.getD i 0
theorem own_LI_set (l : List Int32) (k : Nat) (x : Int32) (hk : k < l.length) (i : Nat) : own_LI (l.set k x) i = if i = k then x else own_LI l i := by
  unfold own_LI
  by_cases e : i = k
  · subst e; simp [List.getD, hk]
  · rw [if_neg e]; simp [List.getD, List.getElem?_set_ne (Ne.symm e)]
theorem own_newAI (X : Stand p l e R s m args below meth c T locs cells slots) (hx : p.tables.exec = Jvm.exec) (hZ : Z.Warmed39 s.vm) {aty : ArrayType} {ty : FieldType} (hty : newarray.typeOf aty = ty) (w1 : (Jvm.Cond.arrayClass ty).before a0 Z = true) (eT : T.heap = h) {n : Int32} (hd : decode c.code pc = .ok (.newarray aty, 2)) (hp : pc + 2 = pc') (hn : ¬ n < 0) {cap : Nat} (hcap : n.toNatClampNeg ≤ cap) (hb : cap * 8 ≤ 536870912) (hc : cells + 1 ≤ R.cells) (hl : slots + cap ≤ R.slots) (hdv : defaultValue ty = .int 0)
    (k : ∀ (T' : State) (h' : Heap) (a : Addr), a = h.size → Stand p l e R s m args below meth c T' locs (cells + 1) (slots + cap) → T'.heap = h' → Ext h h' → own_AI Z h' a ty n (fun _ => 0) → own_G p e below P (T'.setTop (mkF m pc' Ls (.ref a :: st)))) : own_G p e below P (T.setTop (mkF m pc Ls (.int n :: st))) := by
  subst hp hty
  obtain ⟨T', h', cA, X', e', E', A', st'⟩ := newP X hx hZ w1 eT (g := mkF m pc Ls (.int n :: st)) rfl hd rfl hn hcap hb hc hl
  refine own_fw st' (k T' h' h.size rfl X' e' E' ⟨_, A', sz_new _ _ _, hn, fun i hi => ?_⟩)
  rw [sz_new] at hi
  rw [← hdv]
  simp [newA, hi]
theorem own_lenI (X : Stand p l e R s m args below meth c T locs cells slots) (hx : p.tables.exec = Jvm.exec) (hZ : Z.Warmed39 s.vm) (eT : T.heap = h) {ty : FieldType} {g : Nat → Int32} (A : own_AI Z h a ty z g) (hd : decode c.code pc = .ok (.arraylength, 1)) (hp : pc + 1 = pc') (k : own_G p e below P (T.setTop (mkF m pc' Ls (.int z :: st)))) : own_G p e below P (T.setTop (mkF m pc Ls (.ref a :: st))) := by
  subst hp
  obtain ⟨cl, A1, r1, r2, r3⟩ := A
  rw [← len_of r1 r2] at k
  exact own_fw (fun t q => X.arraylength hx (by rw [eT]; exact A1.1) (State.isArrayOf_alike hZ.alike A1.2.1) (g := mkF m pc Ls (.ref a :: st)) rfl rfl hd _ q) k
def own_AJ (Z : State) (h : Heap) (a : Addr) (ty : FieldType) (z : Int32) (g : Nat → Int64) : Prop := ∃ c : Cell, Arr Z h a c ty ∧ c.slots.size = z.toNatClampNeg ∧ ¬ z < 0 ∧ ∀ i, i < c.slots.size → c.slots[i]? = some (.long (g i))
theorem own_AJ.lt {g : Nat → Int64} (F : own_AJ Z h a ty z g) : a < h.size := by obtain ⟨c, A, -⟩ := F; exact A.lt
theorem own_AJ.ext {g : Nat → Int64} (F : own_AJ Z h a ty z g) (E : Ext h h') : own_AJ Z h' a ty z g := by obtain ⟨c, A, r⟩ := F; exact ⟨c, A.ext E, r⟩
theorem own_AJ.other {g : Nat → Int64} (F : own_AJ Z h a ty z g) (W : Wr h h' b sx v) (q : a ≠ b) : own_AJ Z h' a ty z g := by obtain ⟨c, A, r⟩ := F; exact ⟨c, A.other W q, r⟩
theorem own_AJ.keep {g : Nat → Int64} (F : own_AJ Z h a ty z g) (Kp : Keep h h' ws) (q : a ∉ ws) : own_AJ Z h' a ty z g := by obtain ⟨c, A, r⟩ := F; exact ⟨c, ⟨Kp.2.1 a c A.1 q, A.2⟩, r⟩
theorem own_AJ.same {g g' : Nat → Int64} (F : own_AJ Z h a ty z g) (q : ∀ i, i < z.toNatClampNeg → g' i = g i) : own_AJ Z h a ty z g' := by obtain ⟨c, A, r1, r2, r3⟩ := F; exact ⟨c, A, r1, r2, fun i hi => by rw [q i (r1 ▸ hi)]; exact r3 i hi⟩
theorem own_AJ.set {g g' : Nat → Int64} (F : own_AJ Z h a ty z g) {j : Int32} {x : Int64} (W : Wr h h' a j.toNatClampNeg (.long x)) (q : ∀ i, i < z.toNatClampNeg → g' i = if i = j.toNatClampNeg then x else g i) : own_AJ Z h' a ty z g' := by
  obtain ⟨c, A, r1, r2, r3⟩ := F
  refine ⟨_, A.same W, (sz_set _ _ _).trans r1, r2, fun i hi => ?_⟩
  rw [sz_set] at hi
  rw [q i (r1 ▸ hi)]
  by_cases e : i = j.toNatClampNeg
  · subst e; rw [if_pos rfl]; simp [Cell.setSlot, hi]
  · rw [if_neg e]; exact (Array.getElem?_setIfInBounds_ne (Ne.symm e)).trans (r3 i hi)
def own_LJ (l : List Int64) (i : Nat) : Int64 := l.getD i 0
theorem own_LJ_set (l : List Int64) (k : Nat) (x : Int64) (hk : k < l.length) (i : Nat) : own_LJ (l.set k x) i = if i = k then x else own_LJ l i := by
  unfold own_LJ
  by_cases e : i = k
  · subst e; simp [List.getD, hk]
  · rw [if_neg e]; simp [List.getD, List.getElem?_set_ne (Ne.symm e)]
theorem own_newAJ (X : Stand p l e R s m args below meth c T locs cells slots) (hx : p.tables.exec = Jvm.exec) (hZ : Z.Warmed39 s.vm) {aty : ArrayType} {ty : FieldType} (hty : newarray.typeOf aty = ty) (w1 : (Jvm.Cond.arrayClass ty).before a0 Z = true) (eT : T.heap = h) {n : Int32} (hd : decode c.code pc = .ok (.newarray aty, 2)) (hp : pc + 2 = pc') (hn : ¬ n < 0) {cap : Nat} (hcap : n.toNatClampNeg ≤ cap) (hb : cap * 8 ≤ 536870912) (hc : cells + 1 ≤ R.cells) (hl : slots + cap ≤ R.slots) (hdv : defaultValue ty = .long 0)
    (k : ∀ (T' : State) (h' : Heap) (a : Addr), a = h.size → Stand p l e R s m args below meth c T' locs (cells + 1) (slots + cap) → T'.heap = h' → Ext h h' → own_AJ Z h' a ty n (fun _ => 0) → own_G p e below P (T'.setTop (mkF m pc' Ls (.ref a :: st)))) : own_G p e below P (T.setTop (mkF m pc Ls (.int n :: st))) := by
  subst hp hty
  obtain ⟨T', h', cA, X', e', E', A', st'⟩ := newP X hx hZ w1 eT (g := mkF m pc Ls (.int n :: st)) rfl hd rfl hn hcap hb hc hl
  refine own_fw st' (k T' h' h.size rfl X' e' E' ⟨_, A', sz_new _ _ _, hn, fun i hi => ?_⟩)
  rw [sz_new] at hi
  rw [← hdv]
  simp [newA, hi]
theorem own_lenJ (X : Stand p l e R s m args below meth c T locs cells slots) (hx : p.tables.exec = Jvm.exec) (hZ : Z.Warmed39 s.vm) (eT : T.heap = h) {ty : FieldType} {g : Nat → Int64} (A : own_AJ Z h a ty z g) (hd : decode c.code pc = .ok (.arraylength, 1)) (hp : pc + 1 = pc') (k : own_G p e below P (T.setTop (mkF m pc' Ls (.int z :: st)))) : own_G p e below P (T.setTop (mkF m pc Ls (.ref a :: st))) := by
  subst hp
  obtain ⟨cl, A1, r1, r2, r3⟩ := A
  rw [← len_of r1 r2] at k
  exact own_fw (fun t q => X.arraylength hx (by rw [eT]; exact A1.1) (State.isArrayOf_alike hZ.alike A1.2.1) (g := mkF m pc Ls (.ref a :: st)) rfl rfl hd _ q) k
theorem own_baload (X : Stand p l e R s m args below meth c T locs cells slots) (hx : p.tables.exec = Jvm.exec) (hZ : Z.Warmed39 s.vm) (eT : T.heap = h) {g : Nat → Int32} (A : own_AI Z h a .byte z g) {j : Int32} {x : Int32} (hj : ¬ j < 0 ∧ j < z) (hv : g j.toNatClampNeg = x) (hd : decode c.code pc = .ok (.baload, 1)) (hp : pc + 1 = pc') (k : own_G p e below P (T.setTop (mkF m pc' Ls (.int x :: st)))) : own_G p e below P (T.setTop (mkF m pc Ls (.int j :: .ref a :: st))) := by
  subst hp hv
  obtain ⟨cl, A1, r1, r2, r3⟩ := A
  have hin := inb_of r1 hj
  exact own_fw (fun t q => X.baloadBytes hx (j := j) (by rw [eT]; exact A1.1) (State.isArrayOf_alike hZ.alike A1.2.1) A1.2.2 hin (r3 _ (Nat.lt_of_not_le fun q => hin (Or.inr q))) (g := mkF m pc Ls (.int j :: .ref a :: st)) rfl rfl hd _ q) k
theorem own_iaload (X : Stand p l e R s m args below meth c T locs cells slots) (hx : p.tables.exec = Jvm.exec) (hZ : Z.Warmed39 s.vm) (eT : T.heap = h) {g : Nat → Int32} (A : own_AI Z h a .int z g) {j : Int32} {x : Int32} (hj : ¬ j < 0 ∧ j < z) (hv : g j.toNatClampNeg = x) (hd : decode c.code pc = .ok (.iaload, 1)) (hp : pc + 1 = pc') (k : own_G p e below P (T.setTop (mkF m pc' Ls (.int x :: st)))) : own_G p e below P (T.setTop (mkF m pc Ls (.int j :: .ref a :: st))) := by
  subst hp hv
  obtain ⟨cl, A1, r1, r2, r3⟩ := A
  have hin := inb_of r1 hj
  exact own_fw (fun t q => X.iaload hx (j := j) (by rw [eT]; exact A1.1) (State.isArrayOf_alike hZ.alike A1.2.1) A1.2.2 hin (r3 _ (Nat.lt_of_not_le fun q => hin (Or.inr q))) (g := mkF m pc Ls (.int j :: .ref a :: st)) rfl rfl hd _ q) k
theorem own_laload (X : Stand p l e R s m args below meth c T locs cells slots) (hx : p.tables.exec = Jvm.exec) (hZ : Z.Warmed39 s.vm) (eT : T.heap = h) {g : Nat → Int64} (A : own_AJ Z h a .long z g) {j : Int32} {x : Int64} (hj : ¬ j < 0 ∧ j < z) (hv : g j.toNatClampNeg = x) (hd : decode c.code pc = .ok (.laload, 1)) (hp : pc + 1 = pc') (k : own_G p e below P (T.setTop (mkF m pc' Ls (.long x :: st)))) : own_G p e below P (T.setTop (mkF m pc Ls (.int j :: .ref a :: st))) := by
  subst hp hv
  obtain ⟨cl, A1, r1, r2, r3⟩ := A
  have hin := inb_of r1 hj
  exact own_fw (fun t q => X.laload hx (j := j) (by rw [eT]; exact A1.1) (State.isArrayOf_alike hZ.alike A1.2.1) A1.2.2 hin (r3 _ (Nat.lt_of_not_le fun q => hin (Or.inr q))) (g := mkF m pc Ls (.int j :: .ref a :: st)) rfl rfl hd _ q) k
theorem own_bastore (X : Stand p l e R s m args below meth c T locs cells slots) (hx : p.tables.exec = Jvm.exec) (hZ : Z.Warmed39 s.vm) (eT : T.heap = h) {g g' : Nat → Int32} (A : own_AI Z h a .byte z g) {j : Int32} {x x' : Int32} (hj : ¬ j < 0 ∧ j < z) (hx' : (nar .byte x) = x') (hg : ∀ i, i < z.toNatClampNeg → g' i = if i = j.toNatClampNeg then x' else g i) (hd : decode c.code pc = .ok (.bastore, 1)) (hp : pc + 1 = pc') (k : ∀ (T' : State) (h' : Heap), Stand p l e R s m args below meth c T' (locs ++ [⟨a, j.toNatClampNeg⟩]) cells slots → T'.heap = h' → Wr h h' a j.toNatClampNeg (.int x') → own_AI Z h' a .byte z g' → own_G p e below P (T'.setTop (mkF m pc' Ls st))) : own_G p e below P (T.setTop (mkF m pc Ls (.int x :: .int j :: .ref a :: st))) := by
  subst hp hx'
  have A0 := A
  obtain ⟨cl, A1, r1, r2, r3⟩ := A
  obtain ⟨T', h', X', e', W', st'⟩ := stB X hx hZ eT A1 (inb_of r1 hj) (g := mkF m pc Ls (.int x :: .int j :: .ref a :: st)) rfl rfl hd
  exact own_fw st' (k T' h' X' e' W' (A0.set W' hg))
theorem own_iastore (X : Stand p l e R s m args below meth c T locs cells slots) (hx : p.tables.exec = Jvm.exec) (hZ : Z.Warmed39 s.vm) (eT : T.heap = h) {g g' : Nat → Int32} (A : own_AI Z h a .int z g) {j : Int32} {x x' : Int32} (hj : ¬ j < 0 ∧ j < z) (hx' : x = x') (hg : ∀ i, i < z.toNatClampNeg → g' i = if i = j.toNatClampNeg then x' else g i) (hd : decode c.code pc = .ok (.iastore, 1)) (hp : pc + 1 = pc') (k : ∀ (T' : State) (h' : Heap), Stand p l e R s m args below meth c T' (locs ++ [⟨a, j.toNatClampNeg⟩]) cells slots → T'.heap = h' → Wr h h' a j.toNatClampNeg (.int x') → own_AI Z h' a .int z g' → own_G p e below P (T'.setTop (mkF m pc' Ls st))) : own_G p e below P (T.setTop (mkF m pc Ls (.int x :: .int j :: .ref a :: st))) := by
  subst hp hx'
  have A0 := A
  obtain ⟨cl, A1, r1, r2, r3⟩ := A
  obtain ⟨T', h', X', e', W', st'⟩ := stI X hx hZ eT A1 (inb_of r1 hj) (g := mkF m pc Ls (.int x :: .int j :: .ref a :: st)) rfl rfl hd
  exact own_fw st' (k T' h' X' e' W' (A0.set W' hg))
theorem own_lastore (X : Stand p l e R s m args below meth c T locs cells slots) (hx : p.tables.exec = Jvm.exec) (hZ : Z.Warmed39 s.vm) (eT : T.heap = h) {g g' : Nat → Int64} (A : own_AJ Z h a .long z g) {j : Int32} {x x' : Int64} (hj : ¬ j < 0 ∧ j < z) (hx' : x = x') (hg : ∀ i, i < z.toNatClampNeg → g' i = if i = j.toNatClampNeg then x' else g i) (hd : decode c.code pc = .ok (.lastore, 1)) (hp : pc + 1 = pc') (k : ∀ (T' : State) (h' : Heap), Stand p l e R s m args below meth c T' (locs ++ [⟨a, j.toNatClampNeg⟩]) cells slots → T'.heap = h' → Wr h h' a j.toNatClampNeg (.long x') → own_AJ Z h' a .long z g' → own_G p e below P (T'.setTop (mkF m pc' Ls st))) : own_G p e below P (T.setTop (mkF m pc Ls (.long x :: .int j :: .ref a :: st))) := by
  subst hp hx'
  have A0 := A
  obtain ⟨cl, A1, r1, r2, r3⟩ := A
  obtain ⟨T', h', X', e', W', st'⟩ := stJ X hx hZ eT A1 (inb_of r1 hj) (g := mkF m pc Ls (.long x :: .int j :: .ref a :: st)) rfl rfl hd
  exact own_fw st' (k T' h' X' e' W' (A0.set W' hg))
theorem own_newE (X : Stand p l e R s m args below meth c T locs cells slots) (hx : p.tables.exec = Jvm.exec) (hZ : Z.Warmed39 s.vm) (w1 : (Jvm.Cond.arrayClass .long).before a0 Z = true) (eT : T.heap = h) {n : Int32} (hd : decode c.code pc = .ok (.newarray .long, 2)) (hp : pc + 2 = pc') (hn : ¬ n < 0) {cap : Nat} (hcap : n.toNatClampNeg ≤ cap) (hb : cap * 8 ≤ 536870912) (hc : cells + 1 ≤ R.cells) (hl : slots + cap ≤ R.slots)
    (k : ∀ (T' : State) (h' : Heap) (a : Addr), a = h.size → Stand p l e R s m args below meth c T' locs (cells + 1) (slots + cap) → T'.heap = h' → Ext h h' → own_AJ Z h' a .long n (fun _ => 0) → Exa Z h' a "[J" → own_G p e below P (T'.setTop (mkF m pc' Ls (.ref a :: st)))) : own_G p e below P (T.setTop (mkF m pc Ls (.int n :: st))) := by
  subst hp
  obtain ⟨T', h', cA, X', e', E', A', B', st'⟩ := newPE X hx hZ (aty := .long) w1 eT (g := mkF m pc Ls (.int n :: st)) rfl hd rfl hn hcap hb hc hl (ad := "[J") (by decide)
  refine own_fw st' (k T' h' h.size rfl X' e' E' ⟨_, A', sz_new _ _ _, hn, fun i hi => ?_⟩ B')
  rw [sz_new] at hi
  show _ = some (defaultValue (newarray.typeOf .long))
  simp [newA, hi]
theorem own_clone (X : Stand p l e R s m args below meth c T locs cells slots) (hx : p.tables.exec = Jvm.exec) (hZ : Z.Warmed39 s.vm) {own : String} {index : Nat} (hown : s.vm.findClass own = some m.cls) (w1 : (Jvm.Cond.methodLink own index ⟨"[J", "clone", "()Ljava/lang/Object;"⟩).before a0 Z = true) (w2 : (Jvm.Cond.sameMethod "[J" "java/lang/Object" "clone" "()Ljava/lang/Object;").before a0 Z = true) (w3 : (Jvm.Cond.native ⟨"java/lang/Object", "clone", "()Ljava/lang/Object;"⟩).before a0 Z = true)
    (w4 : (Jvm.Cond.instanceMethod ⟨"java/lang/Object", "clone", "()Ljava/lang/Object;"⟩).before a0 Z = true) (w5 : (Jvm.Cond.selects "[J" ⟨"[J", "clone", "()Ljava/lang/Object;"⟩ ⟨"java/lang/Object", "clone", "()Ljava/lang/Object;"⟩).before a0 Z = true) (w6 : (Jvm.Cond.castable "[J" "java/lang/Cloneable").before a0 Z = true)
    (eT : T.heap = h) {g : Nat → Int64} (A : own_AJ Z h a .long z g) (E : Exa Z h a "[J") (hsize : Ls.size = c.maxLocals) (hd : decode c.code pc = .ok (.invokevirtual index, 3)) (hf : 1 ≤ R.frames) {W cap : Nat} (hW : (st.map fun v => v.category).sum ≤ W) (hl : W + 14 ≤ R.locals) (hcap : z.toNatClampNeg ≤ cap) (hc : cells + 1 ≤ R.cells) (hsl : slots + cap ≤ R.slots) (hp : pc + 3 = pc')
    (k : ∀ (T' : State) (h' : Heap) (b : Addr), b = h.size → Stand p l e R s m args below meth c T' locs (cells + 1) (slots + cap) → T'.heap = h' → Ext h h' → own_AJ Z h' b .long z g → Exa Z h' b "[J" → own_G p e below P (T'.setTop (mkF m pc' Ls (.ref b :: st)))) : own_G p e below P (T.setTop (mkF m pc Ls (.ref a :: st))) := by
  subst hp
  obtain ⟨cl, A1, r1, r2, r3⟩ := A
  have FC : FitC Z cl := fitC_of A1 fun i hi v hv => by rw [r3 i hi] at hv; cases hv; rfl
  obtain ⟨T', h', X', e', ex, A', E', st'⟩ := cloneA X hx hZ hown w1 w2 w3 w4 w5 w6 eT A1 E FC (g := mkF m pc Ls (.ref a :: st)) rfl hsize rfl hd hf (W := W) (cap := cap) (by show 2 * 0 + _ ≤ _; omega) hl (by rw [r1]; exact hcap) hc hsl
  exact own_fw st' (k T' h' h.size rfl X' e' ex ⟨_, A', r1, r2, r3⟩ E')
theorem own_checkcast (X : Stand p l e R s m args below meth c T locs cells slots) (hx : p.tables.exec = Jvm.exec) (hZ : Z.Warmed39 s.vm) {own K : String} {index : Nat} (hown : s.vm.findClass own = some m.cls) (w1 : (Jvm.Cond.classLink own index K).before a0 Z = true) (eT : T.heap = h) (E : Exa Z h a K) (hd : decode c.code pc = .ok (.checkcast index, 3)) (hp : pc + 3 = pc') (k : ∀ T' : State, Stand p l e R s m args below meth c T' locs cells slots → T'.heap = h → own_G p e below P (T'.setTop (mkF m pc' Ls (.ref a :: st)))) : own_G p e below P (T.setTop (mkF m pc Ls (.ref a :: st))) := by
  subst hp
  obtain ⟨T', X', e', st'⟩ := castY X hx hZ hown w1 eT (Ins.self E) (g := mkF m pc Ls (.ref a :: st)) rfl rfl hd
  exact own_fw st' (k T' X' e')
theorem own_nar (y : Int32) : nar .byte y.toInt8.toInt32 = y.toInt8.toInt32 := by
  show y.toInt8.toInt32.toInt8.toInt32 = _
  rw [Int8.toInt8_toInt32]
end OwnArr
theorem od_prog_25_method_1_0 : decode prog_25_method_1_code 0 = .ok (.aload_n 0, 1) := by decide +kernel
theorem od_prog_25_method_1_1 : decode prog_25_method_1_code 1 = .ok (.invokespecial 1, 3) := by decide +kernel
theorem ow_8 {Z : State} {a0 : Array Value} (hw : ∀ d ∈ tables_1, d.before a0 Z = true) : (Jvm.Cond.methodLink "com/example/binlease/binlease/model/Server" (1 : Nat) ({ cls := "java/lang/Object", name := "<init>", desc := "()V" } : Jvm.MethodName)).before a0 Z = true := hw _ (List.mem_of_getElem? (i := 8) rfl)
theorem ow_9 {Z : State} {a0 : Array Value} (hw : ∀ d ∈ tables_1, d.before a0 Z = true) : (Jvm.Cond.instanceMethod ({ cls := "java/lang/Object", name := "<init>", desc := "()V" } : Jvm.MethodName)).before a0 Z = true := hw _ (List.mem_of_getElem? (i := 9) rfl)
theorem ow_10 {Z : State} {a0 : Array Value} (hw : ∀ d ∈ tables_1, d.before a0 Z = true) : (Jvm.Cond.code ({ cls := "java/lang/Object", name := "<init>", desc := "()V" } : Jvm.MethodName) object_method_1_code (1 : Nat) (Option.none : Option Jvm.ClassFile.FieldType)).before a0 Z = true := hw _ (List.mem_of_getElem? (i := 10) rfl)
theorem od_prog_25_method_1_4 : decode prog_25_method_1_code 4 = .ok (.aload_n 0, 1) := by decide +kernel
theorem od_prog_25_method_1_5 : decode prog_25_method_1_code 5 = .ok (.iconst 1, 1) := by decide +kernel
theorem od_prog_25_method_1_6 : decode prog_25_method_1_code 6 = .ok (.putfield 7, 3) := by decide +kernel
theorem ow_11 {Z : State} {a0 : Array Value} (hw : ∀ d ∈ tables_1, d.before a0 Z = true) : (Jvm.Cond.fieldLink "com/example/binlease/binlease/model/Server" (7 : Nat) "com/example/binlease/binlease/model/Server" "open" "Z").before a0 Z = true := hw _ (List.mem_of_getElem? (i := 11) rfl)
theorem ow_12 {Z : State} {a0 : Array Value} (hw : ∀ d ∈ tables_1, d.before a0 Z = true) : (Jvm.Cond.lays "com/example/binlease/binlease/model/Server" "com/example/binlease/binlease/model/Server" "open" "Z").before a0 Z = true := hw _ (List.mem_of_getElem? (i := 12) rfl)
theorem ow_2 {Z : State} {a0 : Array Value} (hw : ∀ d ∈ tables_1, d.before a0 Z = true) : (Jvm.Cond.instantiable "com/example/binlease/binlease/model/Server" (7 : Nat)).before a0 Z = true := hw _ (List.mem_of_getElem? (i := 2) rfl)
theorem od_prog_25_method_1_9 : decode prog_25_method_1_code 9 = .ok (.aload_n 0, 1) := by decide +kernel
theorem od_prog_25_method_1_10 : decode prog_25_method_1_code 10 = .ok (.iload_n 1, 1) := by decide +kernel
theorem od_prog_25_method_1_11 : decode prog_25_method_1_code 11 = .ok (.putfield 13, 3) := by decide +kernel
theorem ow_13 {Z : State} {a0 : Array Value} (hw : ∀ d ∈ tables_1, d.before a0 Z = true) : (Jvm.Cond.fieldLink "com/example/binlease/binlease/model/Server" (13 : Nat) "com/example/binlease/binlease/model/Server" "number" "I").before a0 Z = true := hw _ (List.mem_of_getElem? (i := 13) rfl)
theorem ow_14 {Z : State} {a0 : Array Value} (hw : ∀ d ∈ tables_1, d.before a0 Z = true) : (Jvm.Cond.laysFinal "com/example/binlease/binlease/model/Server" "com/example/binlease/binlease/model/Server" "number" "I").before a0 Z = true := hw _ (List.mem_of_getElem? (i := 14) rfl)
theorem osn_0 {Z : State} {a0 : Array Value} (hw : ∀ d ∈ tables_1, d.before a0 Z = true) : RoadKit.slotOf Z "com/example/binlease/binlease/model/Server" "number" "I" ≠ RoadKit.slotOf Z "com/example/binlease/binlease/model/Server" "open" "Z" := slot_ne (C := "com/example/binlease/binlease/model/Server") (Or.inr (ow_14 hw)) (Or.inl (ow_12 hw)) (by decide) (t := .int) (t' := .boolean) (by decide) (by decide)
theorem od_prog_25_method_1_14 : decode prog_25_method_1_code 14 = .ok (.aload_n 0, 1) := by decide +kernel
theorem od_prog_25_method_1_15 : decode prog_25_method_1_code 15 = .ok (.aload_n 2, 1) := by decide +kernel
theorem od_prog_25_method_1_16 : decode prog_25_method_1_code 16 = .ok (.invokevirtual 17, 3) := by decide +kernel
theorem ow_15 {Z : State} {a0 : Array Value} (hw : ∀ d ∈ tables_1, d.before a0 Z = true) : (Jvm.Cond.methodLink "com/example/binlease/binlease/model/Server" (17 : Nat) ({ cls := "[J", name := "clone", desc := "()Ljava/lang/Object;" } : Jvm.MethodName)).before a0 Z = true := hw _ (List.mem_of_getElem? (i := 15) rfl)
theorem ow_16 {Z : State} {a0 : Array Value} (hw : ∀ d ∈ tables_1, d.before a0 Z = true) : (Jvm.Cond.sameMethod "[J" "java/lang/Object" "clone" "()Ljava/lang/Object;").before a0 Z = true := hw _ (List.mem_of_getElem? (i := 16) rfl)
theorem ow_20 {Z : State} {a0 : Array Value} (hw : ∀ d ∈ tables_1, d.before a0 Z = true) : (Jvm.Cond.native ({ cls := "java/lang/Object", name := "clone", desc := "()Ljava/lang/Object;" } : Jvm.MethodName)).before a0 Z = true := hw _ (List.mem_of_getElem? (i := 20) rfl)
theorem ow_18 {Z : State} {a0 : Array Value} (hw : ∀ d ∈ tables_1, d.before a0 Z = true) : (Jvm.Cond.instanceMethod ({ cls := "java/lang/Object", name := "clone", desc := "()Ljava/lang/Object;" } : Jvm.MethodName)).before a0 Z = true := hw _ (List.mem_of_getElem? (i := 18) rfl)
theorem ow_19 {Z : State} {a0 : Array Value} (hw : ∀ d ∈ tables_1, d.before a0 Z = true) : (Jvm.Cond.selects "[J" ({ cls := "[J", name := "clone", desc := "()Ljava/lang/Object;" } : Jvm.MethodName) ({ cls := "java/lang/Object", name := "clone", desc := "()Ljava/lang/Object;" } : Jvm.MethodName)).before a0 Z = true := hw _ (List.mem_of_getElem? (i := 19) rfl)
theorem ow_21 {Z : State} {a0 : Array Value} (hw : ∀ d ∈ tables_1, d.before a0 Z = true) : (Jvm.Cond.castable "[J" "java/lang/Cloneable").before a0 Z = true := hw _ (List.mem_of_getElem? (i := 21) rfl)
theorem od_prog_25_method_1_19 : decode prog_25_method_1_code 19 = .ok (.checkcast 18, 3) := by decide +kernel
theorem ow_22 {Z : State} {a0 : Array Value} (hw : ∀ d ∈ tables_1, d.before a0 Z = true) : (Jvm.Cond.classLink "com/example/binlease/binlease/model/Server" (18 : Nat) "[J").before a0 Z = true := hw _ (List.mem_of_getElem? (i := 22) rfl)
theorem od_prog_25_method_1_22 : decode prog_25_method_1_code 22 = .ok (.putfield 23, 3) := by decide +kernel
theorem ow_24 {Z : State} {a0 : Array Value} (hw : ∀ d ∈ tables_1, d.before a0 Z = true) : (Jvm.Cond.fieldLink "com/example/binlease/binlease/model/Server" (23 : Nat) "com/example/binlease/binlease/model/Server" "capacity" "[J").before a0 Z = true := hw _ (List.mem_of_getElem? (i := 24) rfl)
theorem ow_25 {Z : State} {a0 : Array Value} (hw : ∀ d ∈ tables_1, d.before a0 Z = true) : (Jvm.Cond.laysFinal "com/example/binlease/binlease/model/Server" "com/example/binlease/binlease/model/Server" "capacity" "[J").before a0 Z = true := hw _ (List.mem_of_getElem? (i := 25) rfl)
theorem osn_1 {Z : State} {a0 : Array Value} (hw : ∀ d ∈ tables_1, d.before a0 Z = true) : RoadKit.slotOf Z "com/example/binlease/binlease/model/Server" "capacity" "[J" ≠ RoadKit.slotOf Z "com/example/binlease/binlease/model/Server" "open" "Z" := slot_ne (C := "com/example/binlease/binlease/model/Server") (Or.inr (ow_25 hw)) (Or.inl (ow_12 hw)) (by decide) (t := (.array .long)) (t' := .boolean) (by decide) (by decide)
theorem osn_2 {Z : State} {a0 : Array Value} (hw : ∀ d ∈ tables_1, d.before a0 Z = true) : RoadKit.slotOf Z "com/example/binlease/binlease/model/Server" "capacity" "[J" ≠ RoadKit.slotOf Z "com/example/binlease/binlease/model/Server" "number" "I" := slot_ne (C := "com/example/binlease/binlease/model/Server") (Or.inr (ow_25 hw)) (Or.inr (ow_14 hw)) (by decide) (t := (.array .long)) (t' := .int) (by decide) (by decide)
theorem od_prog_25_method_1_25 : decode prog_25_method_1_code 25 = .ok (.aload_n 0, 1) := by decide +kernel
theorem od_prog_25_method_1_26 : decode prog_25_method_1_code 26 = .ok (.aload_n 2, 1) := by decide +kernel
theorem od_prog_25_method_1_27 : decode prog_25_method_1_code 27 = .ok (.arraylength, 1) := by decide +kernel
theorem od_prog_25_method_1_28 : decode prog_25_method_1_code 28 = .ok (.newarray .long, 2) := by decide +kernel
theorem ow_4 {Z : State} {a0 : Array Value} (hw : ∀ d ∈ tables_1, d.before a0 Z = true) : (Jvm.Cond.arrayClass Jvm.ClassFile.FieldType.long).before a0 Z = true := hw _ (List.mem_of_getElem? (i := 4) rfl)
theorem od_prog_25_method_1_30 : decode prog_25_method_1_code 30 = .ok (.putfield 26, 3) := by decide +kernel
theorem ow_26 {Z : State} {a0 : Array Value} (hw : ∀ d ∈ tables_1, d.before a0 Z = true) : (Jvm.Cond.fieldLink "com/example/binlease/binlease/model/Server" (26 : Nat) "com/example/binlease/binlease/model/Server" "load" "[J").before a0 Z = true := hw _ (List.mem_of_getElem? (i := 26) rfl)
theorem ow_27 {Z : State} {a0 : Array Value} (hw : ∀ d ∈ tables_1, d.before a0 Z = true) : (Jvm.Cond.laysFinal "com/example/binlease/binlease/model/Server" "com/example/binlease/binlease/model/Server" "load" "[J").before a0 Z = true := hw _ (List.mem_of_getElem? (i := 27) rfl)
theorem osn_3 {Z : State} {a0 : Array Value} (hw : ∀ d ∈ tables_1, d.before a0 Z = true) : RoadKit.slotOf Z "com/example/binlease/binlease/model/Server" "load" "[J" ≠ RoadKit.slotOf Z "com/example/binlease/binlease/model/Server" "open" "Z" := slot_ne (C := "com/example/binlease/binlease/model/Server") (Or.inr (ow_27 hw)) (Or.inl (ow_12 hw)) (by decide) (t := (.array .long)) (t' := .boolean) (by decide) (by decide)
theorem osn_4 {Z : State} {a0 : Array Value} (hw : ∀ d ∈ tables_1, d.before a0 Z = true) : RoadKit.slotOf Z "com/example/binlease/binlease/model/Server" "load" "[J" ≠ RoadKit.slotOf Z "com/example/binlease/binlease/model/Server" "number" "I" := slot_ne (C := "com/example/binlease/binlease/model/Server") (Or.inr (ow_27 hw)) (Or.inr (ow_14 hw)) (by decide) (t := (.array .long)) (t' := .int) (by decide) (by decide)
theorem osn_5 {Z : State} {a0 : Array Value} (hw : ∀ d ∈ tables_1, d.before a0 Z = true) : RoadKit.slotOf Z "com/example/binlease/binlease/model/Server" "load" "[J" ≠ RoadKit.slotOf Z "com/example/binlease/binlease/model/Server" "capacity" "[J" := slot_ne (C := "com/example/binlease/binlease/model/Server") (Or.inr (ow_27 hw)) (Or.inr (ow_25 hw)) (by decide) (t := (.array .long)) (t' := (.array .long)) (by decide) (by decide)
theorem od_prog_25_method_1_33 : decode prog_25_method_1_code 33 = .ok (.aload_n 0, 1) := by decide +kernel
theorem od_prog_25_method_1_34 : decode prog_25_method_1_code 34 = .ok (.lload_n 3, 1) := by decide +kernel
theorem od_prog_25_method_1_35 : decode prog_25_method_1_code 35 = .ok (.putfield 29, 3) := by decide +kernel
theorem ow_28 {Z : State} {a0 : Array Value} (hw : ∀ d ∈ tables_1, d.before a0 Z = true) : (Jvm.Cond.fieldLink "com/example/binlease/binlease/model/Server" (29 : Nat) "com/example/binlease/binlease/model/Server" "openedAt" "J").before a0 Z = true := hw _ (List.mem_of_getElem? (i := 28) rfl)
theorem ow_29 {Z : State} {a0 : Array Value} (hw : ∀ d ∈ tables_1, d.before a0 Z = true) : (Jvm.Cond.laysFinal "com/example/binlease/binlease/model/Server" "com/example/binlease/binlease/model/Server" "openedAt" "J").before a0 Z = true := hw _ (List.mem_of_getElem? (i := 29) rfl)
theorem osn_6 {Z : State} {a0 : Array Value} (hw : ∀ d ∈ tables_1, d.before a0 Z = true) : RoadKit.slotOf Z "com/example/binlease/binlease/model/Server" "openedAt" "J" ≠ RoadKit.slotOf Z "com/example/binlease/binlease/model/Server" "open" "Z" := slot_ne (C := "com/example/binlease/binlease/model/Server") (Or.inr (ow_29 hw)) (Or.inl (ow_12 hw)) (by decide) (t := .long) (t' := .boolean) (by decide) (by decide)
theorem osn_7 {Z : State} {a0 : Array Value} (hw : ∀ d ∈ tables_1, d.before a0 Z = true) : RoadKit.slotOf Z "com/example/binlease/binlease/model/Server" "openedAt" "J" ≠ RoadKit.slotOf Z "com/example/binlease/binlease/model/Server" "number" "I" := slot_ne (C := "com/example/binlease/binlease/model/Server") (Or.inr (ow_29 hw)) (Or.inr (ow_14 hw)) (by decide) (t := .long) (t' := .int) (by decide) (by decide)
theorem osn_8 {Z : State} {a0 : Array Value} (hw : ∀ d ∈ tables_1, d.before a0 Z = true) : RoadKit.slotOf Z "com/example/binlease/binlease/model/Server" "openedAt" "J" ≠ RoadKit.slotOf Z "com/example/binlease/binlease/model/Server" "capacity" "[J" := slot_ne (C := "com/example/binlease/binlease/model/Server") (Or.inr (ow_29 hw)) (Or.inr (ow_25 hw)) (by decide) (t := .long) (t' := (.array .long)) (by decide) (by decide)
theorem osn_9 {Z : State} {a0 : Array Value} (hw : ∀ d ∈ tables_1, d.before a0 Z = true) : RoadKit.slotOf Z "com/example/binlease/binlease/model/Server" "openedAt" "J" ≠ RoadKit.slotOf Z "com/example/binlease/binlease/model/Server" "load" "[J" := slot_ne (C := "com/example/binlease/binlease/model/Server") (Or.inr (ow_29 hw)) (Or.inr (ow_27 hw)) (by decide) (t := .long) (t' := (.array .long)) (by decide) (by decide)
theorem od_prog_25_method_1_38 : decode prog_25_method_1_code 38 = .ok (.return_, 1) := by decide +kernel
theorem osn_10 {Z : State} {a0 : Array Value} (hw : ∀ d ∈ tables_1, d.before a0 Z = true) : RoadKit.slotOf Z "com/example/binlease/binlease/model/Server" "open" "Z" ≠ RoadKit.slotOf Z "com/example/binlease/binlease/model/Server" "number" "I" := slot_ne (C := "com/example/binlease/binlease/model/Server") (Or.inl (ow_12 hw)) (Or.inr (ow_14 hw)) (by decide) (t := .boolean) (t' := .int) (by decide) (by decide)
theorem osn_11 {Z : State} {a0 : Array Value} (hw : ∀ d ∈ tables_1, d.before a0 Z = true) : RoadKit.slotOf Z "com/example/binlease/binlease/model/Server" "open" "Z" ≠ RoadKit.slotOf Z "com/example/binlease/binlease/model/Server" "capacity" "[J" := slot_ne (C := "com/example/binlease/binlease/model/Server") (Or.inl (ow_12 hw)) (Or.inr (ow_25 hw)) (by decide) (t := .boolean) (t' := (.array .long)) (by decide) (by decide)
theorem osn_12 {Z : State} {a0 : Array Value} (hw : ∀ d ∈ tables_1, d.before a0 Z = true) : RoadKit.slotOf Z "com/example/binlease/binlease/model/Server" "open" "Z" ≠ RoadKit.slotOf Z "com/example/binlease/binlease/model/Server" "load" "[J" := slot_ne (C := "com/example/binlease/binlease/model/Server") (Or.inl (ow_12 hw)) (Or.inr (ow_27 hw)) (by decide) (t := .boolean) (t' := (.array .long)) (by decide) (by decide)
theorem osn_13 {Z : State} {a0 : Array Value} (hw : ∀ d ∈ tables_1, d.before a0 Z = true) : RoadKit.slotOf Z "com/example/binlease/binlease/model/Server" "open" "Z" ≠ RoadKit.slotOf Z "com/example/binlease/binlease/model/Server" "openedAt" "J" := slot_ne (C := "com/example/binlease/binlease/model/Server") (Or.inl (ow_12 hw)) (Or.inr (ow_29 hw)) (by decide) (t := .boolean) (t' := .long) (by decide) (by decide)
theorem osn_14 {Z : State} {a0 : Array Value} (hw : ∀ d ∈ tables_1, d.before a0 Z = true) : RoadKit.slotOf Z "com/example/binlease/binlease/model/Server" "number" "I" ≠ RoadKit.slotOf Z "com/example/binlease/binlease/model/Server" "capacity" "[J" := slot_ne (C := "com/example/binlease/binlease/model/Server") (Or.inr (ow_14 hw)) (Or.inr (ow_25 hw)) (by decide) (t := .int) (t' := (.array .long)) (by decide) (by decide)
theorem osn_15 {Z : State} {a0 : Array Value} (hw : ∀ d ∈ tables_1, d.before a0 Z = true) : RoadKit.slotOf Z "com/example/binlease/binlease/model/Server" "number" "I" ≠ RoadKit.slotOf Z "com/example/binlease/binlease/model/Server" "load" "[J" := slot_ne (C := "com/example/binlease/binlease/model/Server") (Or.inr (ow_14 hw)) (Or.inr (ow_27 hw)) (by decide) (t := .int) (t' := (.array .long)) (by decide) (by decide)
theorem osn_16 {Z : State} {a0 : Array Value} (hw : ∀ d ∈ tables_1, d.before a0 Z = true) : RoadKit.slotOf Z "com/example/binlease/binlease/model/Server" "number" "I" ≠ RoadKit.slotOf Z "com/example/binlease/binlease/model/Server" "openedAt" "J" := slot_ne (C := "com/example/binlease/binlease/model/Server") (Or.inr (ow_14 hw)) (Or.inr (ow_29 hw)) (by decide) (t := .int) (t' := .long) (by decide) (by decide)
theorem osn_17 {Z : State} {a0 : Array Value} (hw : ∀ d ∈ tables_1, d.before a0 Z = true) : RoadKit.slotOf Z "com/example/binlease/binlease/model/Server" "capacity" "[J" ≠ RoadKit.slotOf Z "com/example/binlease/binlease/model/Server" "load" "[J" := slot_ne (C := "com/example/binlease/binlease/model/Server") (Or.inr (ow_25 hw)) (Or.inr (ow_27 hw)) (by decide) (t := (.array .long)) (t' := (.array .long)) (by decide) (by decide)
theorem osn_18 {Z : State} {a0 : Array Value} (hw : ∀ d ∈ tables_1, d.before a0 Z = true) : RoadKit.slotOf Z "com/example/binlease/binlease/model/Server" "capacity" "[J" ≠ RoadKit.slotOf Z "com/example/binlease/binlease/model/Server" "openedAt" "J" := slot_ne (C := "com/example/binlease/binlease/model/Server") (Or.inr (ow_25 hw)) (Or.inr (ow_29 hw)) (by decide) (t := (.array .long)) (t' := .long) (by decide) (by decide)
theorem osn_19 {Z : State} {a0 : Array Value} (hw : ∀ d ∈ tables_1, d.before a0 Z = true) : RoadKit.slotOf Z "com/example/binlease/binlease/model/Server" "load" "[J" ≠ RoadKit.slotOf Z "com/example/binlease/binlease/model/Server" "openedAt" "J" := slot_ne (C := "com/example/binlease/binlease/model/Server") (Or.inr (ow_27 hw)) (Or.inr (ow_29 hw)) (by decide) (t := (.array .long)) (t' := .long) (by decide) (by decide)
theorem opn_com_example_binlease_binlease_model_Server : plainName "com/example/binlease/binlease/model/Server" = true := by first | (simp [plainName, overriddenIn]; done) | decide +kernel
theorem oef_rm_srv (m : MethodId) (ra : Addr) (u0 : Int32) (rb : Addr) (u1 : Int64) : entryFrame m #[(.ref ra), (.int u0), (.ref rb), (.long u1)] 5 = mkF m 0 #[.val (.ref ra), .val (.int u0), .val (.ref rb), .val (.long u1), .second] [] := by first | (simp [entryFrame, mkF, argsToLocals, Value.category]; done) | rfl
set_option maxRecDepth 65536 in
set_option maxHeartbeats 40000000 in
theorem rm_srv (l : Launch) (Z : State) (a0 : Array Value) (hw : ∀ d ∈ tables_1, d.before a0 Z = true) (ra : Addr) (rb : Addr) (u0 : Int32) (u1 : Int64) (x0 : Int64) (w0 : Value) (w1 : Value) (w2 : Value) (w3 : Value) (w4 : Value) (h0 : Heap) (n0 : Nat) (Z0 : n0 ≤ h0.size) (P0 : Exa Z h0 ra "com/example/binlease/binlease/model/Server") (P1 : Exa Z h0 rb "[J") (P2 : own_AJ Z h0 rb .long (1 : Int32) (own_LJ [x0])) (P3 : Fld Z h0 ra "com/example/binlease/binlease/model/Server" "open" "Z" (w0)) (P4 : Fld Z h0 ra "com/example/binlease/binlease/model/Server" "number" "I" (w1)) (P5 : Fld Z h0 ra "com/example/binlease/binlease/model/Server" "capacity" "[J" (w2)) (P6 : Fld Z h0 ra "com/example/binlease/binlease/model/Server" "load" "[J" (w3)) (P7 : Fld Z h0 ra "com/example/binlease/binlease/model/Server" "openedAt" "J" (w4)) (g_ra : n0 ≤ ra) (ne_ra_rb : ra ≠ rb) :
    own_M l Z (⟨"com/example/binlease/binlease/model/Server", "<init>", "(I[JJ)V"⟩ : MethodName) prog_25_method_1_code 5 none [] ({ frames := 1, cells := 2, slots := 2, locals := 15 } : Room) #[(.ref ra), (.int u0), (.ref rb), (.long u1)] h0 (fun v h L => ∃ rc rd : Addr, v = none ∧ Fr n0 L ∧ (Keep h0 h [ra]) ∧ (h0.size ≤ rc) ∧ (h0.size ≤ rd) ∧ (Fld Z h ra "com/example/binlease/binlease/model/Server" "open" "Z" (.int (1 : Int32))) ∧ (Fld Z h ra "com/example/binlease/binlease/model/Server" "number" "I" (.int u0)) ∧ (Fld Z h ra "com/example/binlease/binlease/model/Server" "capacity" "[J" (.ref rc)) ∧ (Fld Z h ra "com/example/binlease/binlease/model/Server" "load" "[J" (.ref rd)) ∧ (Fld Z h ra "com/example/binlease/binlease/model/Server" "openedAt" "J" (.long u1)) ∧ (Exa Z h rc "[J") ∧ (own_AJ Z h rc .long (1 : Int32) (own_LJ [x0])) ∧ (Exa Z h rd "[J") ∧ (own_AJ Z h rd .long (1 : Int32) (own_LJ [(0 : Int64)])) ∧ (rc < rd)) 2 2 := by
  refine own_body (plainFor_of_name opn_com_example_binlease_binlease_model_Server) ?_
  intro p e s m below meth c s1 hx hby hml hown hnm hret hlk hZ X0 e0
  rw [oef_rm_srv m ra u0 rb u1]
  have N0 := Fr.nil n0
  refine own_aloadN X0 hx (hb hby od_prog_25_method_1_0) rfl rfl (pc' := 1) rfl ?_
  refine own_initO X0 hx hZ hown (ow_8 hw) (ow_9 hw) (ow_10 hw) e0 (by rw [hml]; rfl) (hb hby od_prog_25_method_1_1) (by decide) (W := 0) (Nat.le_of_eq rfl) (by decide) (pc' := 4) rfl ?_
  intro T1 X1 e1
  refine own_aloadN X1 hx (hb hby od_prog_25_method_1_4) rfl rfl (pc' := 5) rfl ?_
  refine own_iconst X1 hx (hb hby od_prog_25_method_1_5) (z := (1 : Int32)) rfl (pc' := 6) rfl ?_
  refine own_putF X1 hx hZ hown (ow_11 hw) e1 P3 P0 (Or.inl (ow_12 hw)) (ow_2 hw) (ty := .boolean) (by decide) rfl rfl (hb hby od_prog_25_method_1_6) (pc' := 9) rfl ?_
  intro T2 h2 X2 e2 W2
  have N2 := Fr.snoc X2 N0 g_ra
  refine own_aloadN X2 hx (hb hby od_prog_25_method_1_9) rfl rfl (pc' := 10) rfl ?_
  refine own_iloadN X2 hx (hb hby od_prog_25_method_1_10) rfl (pc' := 11) rfl ?_
  have f3 : Fld Z h2 ra "com/example/binlease/binlease/model/Server" "number" "I" (w1) := (P4.other W2 (Or.inr (osn_0 hw)))
  have f4 : Exa Z h2 ra "com/example/binlease/binlease/model/Server" := (P0.wr W2)
  refine own_putF X2 hx hZ hown (ow_13 hw) e2 f3 f4 (Or.inr ⟨(ow_14 hw), rfl, hnm⟩) (ow_2 hw) (ty := .int) (by decide) rfl rfl (hb hby od_prog_25_method_1_11) (pc' := 14) rfl ?_
  intro T5 h5 X5 e5 W5
  have N5 := Fr.snoc X5 N2 g_ra
  refine own_aloadN X5 hx (hb hby od_prog_25_method_1_14) rfl rfl (pc' := 15) rfl ?_
  refine own_aloadN X5 hx (hb hby od_prog_25_method_1_15) rfl rfl (pc' := 16) rfl ?_
  have z7 : n0 ≤ h5.size := (Nat.le_trans (Nat.le_trans Z0 (Nat.le_of_eq (Wr.size W2).symm)) (Nat.le_of_eq (Wr.size W5).symm))
  have f8 : Exa Z h5 ra "com/example/binlease/binlease/model/Server" := (f4.wr W5)
  have f9 : Exa Z h5 rb "[J" := ((P1.wr W2).wr W5)
  have f10 : own_AJ Z h5 rb .long (1 : Int32) (own_LJ [x0]) := ((P2.other W2 (Ne.symm ne_ra_rb)).other W5 (Ne.symm ne_ra_rb))
  refine own_clone X5 hx hZ hown (ow_15 hw) (ow_16 hw) (ow_20 hw) (ow_18 hw) (ow_19 hw) (ow_21 hw) e5 f10 f9 (by rw [hml]; rfl) (hb hby od_prog_25_method_1_16) (by decide) (W := 1) (cap := 1) (Nat.le_of_eq rfl) (by decide) (by decide) (by decide) (by decide) (pc' := 19) rfl ?_
  intro T6 h6 a6 g6 X6 e6 E6 A6 Bx6
  have lt_ra_a6 : ra < a6 := by rw [g6]; exact f8.lt
  have lt_rb_a6 : rb < a6 := by rw [g6]; exact f9.lt
  have ge_a6 : n0 ≤ a6 := by rw [g6]; exact z7
  have gn_a6 : h0.size ≤ a6 := by rw [g6]; exact (Nat.le_trans (Nat.le_trans (Nat.le_refl _) (Nat.le_of_eq (Wr.size W2).symm)) (Nat.le_of_eq (Wr.size W5).symm))
  refine own_checkcast X6 hx hZ hown (ow_22 hw) e6 Bx6 (hb hby od_prog_25_method_1_19) (pc' := 22) rfl ?_
  intro T11 X11 e11
  have f12 : Fld Z h6 ra "com/example/binlease/binlease/model/Server" "capacity" "[J" (w2) := (((P5.other W2 (Or.inr (osn_1 hw))).other W5 (Or.inr (osn_2 hw))).ext E6)
  have f13 : Exa Z h6 ra "com/example/binlease/binlease/model/Server" := (f8.ext E6)
  refine own_putF X11 hx hZ hown (ow_24 hw) e11 f12 f13 (Or.inr ⟨(ow_25 hw), rfl, hnm⟩) (ow_2 hw) (ty := (.array .long)) (by decide) rfl rfl (hb hby od_prog_25_method_1_22) (pc' := 25) rfl ?_
  intro T14 h14 X14 e14 W14
  have N14 := Fr.snoc X14 N5 g_ra
  refine own_aloadN X14 hx (hb hby od_prog_25_method_1_25) rfl rfl (pc' := 26) rfl ?_
  refine own_aloadN X14 hx (hb hby od_prog_25_method_1_26) rfl rfl (pc' := 27) rfl ?_
  have f15 : own_AJ Z h14 rb .long (1 : Int32) (own_LJ [x0]) := ((f10.ext E6).other W14 (Ne.symm ne_ra_rb))
  refine own_lenJ X14 hx hZ e14 f15 (hb hby od_prog_25_method_1_27) (pc' := 28) rfl ?_
  have z17 : n0 ≤ h14.size := (Nat.le_trans (Nat.le_trans z7 E6.1) (Nat.le_of_eq (Wr.size W14).symm))
  have f18 : Exa Z h14 a6 "[J" := (Bx6.wr W14)
  have f19 : Exa Z h14 ra "com/example/binlease/binlease/model/Server" := (f13.wr W14)
  have f20 : Exa Z h14 rb "[J" := ((f9.ext E6).wr W14)
  refine own_newE X14 hx hZ (ow_4 hw) e14 (hb hby od_prog_25_method_1_28) (pc' := 30) rfl (by decide) (cap := 1) (by decide) (by decide) (by decide) (by decide) ?_
  intro T16 h16 a16 g16 X16 e16 E16 A16 Bx16
  have lt_a6_a16 : a6 < a16 := by rw [g16]; exact f18.lt
  have lt_ra_a16 : ra < a16 := by rw [g16]; exact f19.lt
  have lt_rb_a16 : rb < a16 := by rw [g16]; exact f20.lt
  have ge_a16 : n0 ≤ a16 := by rw [g16]; exact z17
  have gn_a16 : h0.size ≤ a16 := by rw [g16]; exact (Nat.le_trans (Nat.le_trans (Nat.le_trans (Nat.le_trans (Nat.le_refl _) (Nat.le_of_eq (Wr.size W2).symm)) (Nat.le_of_eq (Wr.size W5).symm)) E6.1) (Nat.le_of_eq (Wr.size W14).symm))
  have B16 : own_AJ Z h16 a16 .long (1 : Int32) (own_LJ [(0 : Int64)]) := A16.same (by decide)
  have f21 : Fld Z h16 ra "com/example/binlease/binlease/model/Server" "load" "[J" (w3) := (((((P6.other W2 (Or.inr (osn_3 hw))).other W5 (Or.inr (osn_4 hw))).ext E6).other W14 (Or.inr (osn_5 hw))).ext E16)
  have f22 : Exa Z h16 ra "com/example/binlease/binlease/model/Server" := (f19.ext E16)
  refine own_putF X16 hx hZ hown (ow_26 hw) e16 f21 f22 (Or.inr ⟨(ow_27 hw), rfl, hnm⟩) (ow_2 hw) (ty := (.array .long)) (by decide) rfl rfl (hb hby od_prog_25_method_1_30) (pc' := 33) rfl ?_
  intro T23 h23 X23 e23 W23
  have N23 := Fr.snoc X23 N14 g_ra
  refine own_aloadN X23 hx (hb hby od_prog_25_method_1_33) rfl rfl (pc' := 34) rfl ?_
  refine own_lloadN X23 hx (hb hby od_prog_25_method_1_34) rfl (pc' := 35) rfl ?_
  have f24 : Fld Z h23 ra "com/example/binlease/binlease/model/Server" "openedAt" "J" (w4) := ((((((P7.other W2 (Or.inr (osn_6 hw))).other W5 (Or.inr (osn_7 hw))).ext E6).other W14 (Or.inr (osn_8 hw))).ext E16).other W23 (Or.inr (osn_9 hw)))
  have f25 : Exa Z h23 ra "com/example/binlease/binlease/model/Server" := (f22.wr W23)
  refine own_putF X23 hx hZ hown (ow_28 hw) e23 f24 f25 (Or.inr ⟨(ow_29 hw), rfl, hnm⟩) (ow_2 hw) (ty := .long) (by decide) rfl rfl (hb hby od_prog_25_method_1_35) (pc' := 38) rfl ?_
  intro T26 h26 X26 e26 W26
  have N26 := Fr.snoc X26 N23 g_ra
  have k34 : Keep h0 h26 [ra] := (Keep.wr (Keep.wr (Keep.ext (Keep.wr (Keep.ext (Keep.wr (Keep.wr (Keep.refl _ _) W2 (Or.inl (List.mem_of_getElem? (i := 0) rfl))) W5 (Or.inl (List.mem_of_getElem? (i := 0) rfl))) E6) W14 (Or.inl (List.mem_of_getElem? (i := 0) rfl))) E16) W23 (Or.inl (List.mem_of_getElem? (i := 0) rfl))) W26 (Or.inl (List.mem_of_getElem? (i := 0) rfl)))
  have f35 : Fld Z h26 ra "com/example/binlease/binlease/model/Server" "open" "Z" (.int (1 : Int32)) := (((((((P3.same W2).other W5 (Or.inr (osn_10 hw))).ext E6).other W14 (Or.inr (osn_11 hw))).ext E16).other W23 (Or.inr (osn_12 hw))).other W26 (Or.inr (osn_13 hw)))
  have f36 : Fld Z h26 ra "com/example/binlease/binlease/model/Server" "number" "I" (.int u0) := ((((((f3.same W5).ext E6).other W14 (Or.inr (osn_14 hw))).ext E16).other W23 (Or.inr (osn_15 hw))).other W26 (Or.inr (osn_16 hw)))
  have f37 : Fld Z h26 ra "com/example/binlease/binlease/model/Server" "capacity" "[J" (.ref a6) := ((((f12.same W14).ext E16).other W23 (Or.inr (osn_17 hw))).other W26 (Or.inr (osn_18 hw)))
  have f38 : Fld Z h26 ra "com/example/binlease/binlease/model/Server" "load" "[J" (.ref a16) := ((f21.same W23).other W26 (Or.inr (osn_19 hw)))
  have f39 : Exa Z h26 a6 "[J" := (((f18.ext E16).wr W23).wr W26)
  have f40 : own_AJ Z h26 a6 .long (1 : Int32) (own_LJ [x0]) := ((((A6.other W14 (Nat.ne_of_gt lt_ra_a6)).ext E16).other W23 (Nat.ne_of_gt lt_ra_a6)).other W26 (Nat.ne_of_gt lt_ra_a6))
  have f41 : Exa Z h26 a16 "[J" := ((Bx16.wr W23).wr W26)
  have f42 : own_AJ Z h26 a16 .long (1 : Int32) (own_LJ [(0 : Int64)]) := ((B16.other W23 (Nat.ne_of_gt lt_ra_a16)).other W26 (Nat.ne_of_gt lt_ra_a16))
  exact own_retV X26 hx hret hlk (hb hby od_prog_25_method_1_38) ⟨a6, a16, rfl, N26, (by rw [e26]; exact k34), gn_a6, gn_a16, (by rw [e26]; exact f35), (by rw [e26]; exact f36), (by rw [e26]; exact f37), (by rw [e26]; exact f38), (by rw [e26]; exact (f24.same W26)), (by rw [e26]; exact f39), (by rw [e26]; exact f40), (by rw [e26]; exact f41), (by rw [e26]; exact f42), lt_a6_a16⟩ (by decide) (by decide)
theorem od_prog_25_method_9_0 : decode prog_25_method_9_code 0 = .ok (.aload_n 0, 1) := by decide +kernel
theorem od_prog_25_method_9_1 : decode prog_25_method_9_code 1 = .ok (.getfield 23, 3) := by decide +kernel
theorem od_prog_25_method_9_4 : decode prog_25_method_9_code 4 = .ok (.iload_n 1, 1) := by decide +kernel
theorem od_prog_25_method_9_5 : decode prog_25_method_9_code 5 = .ok (.laload, 1) := by decide +kernel
theorem od_prog_25_method_9_6 : decode prog_25_method_9_code 6 = .ok (.aload_n 0, 1) := by decide +kernel
theorem od_prog_25_method_9_7 : decode prog_25_method_9_code 7 = .ok (.getfield 26, 3) := by decide +kernel
theorem od_prog_25_method_9_10 : decode prog_25_method_9_code 10 = .ok (.iload_n 1, 1) := by decide +kernel
theorem od_prog_25_method_9_11 : decode prog_25_method_9_code 11 = .ok (.laload, 1) := by decide +kernel
theorem od_prog_25_method_9_12 : decode prog_25_method_9_code 12 = .ok (.lsub, 1) := by decide +kernel
theorem od_prog_25_method_9_13 : decode prog_25_method_9_code 13 = .ok (.lreturn, 1) := by decide +kernel
theorem oef_rm_room0 (m : MethodId) (ra : Addr) : entryFrame m #[(.ref ra), (.int (0 : Int32))] 2 = mkF m 0 #[.val (.ref ra), .val (.int (0 : Int32))] [] := by first | (simp [entryFrame, mkF, argsToLocals, Value.category]; done) | rfl
set_option maxRecDepth 65536 in
set_option maxHeartbeats 40000000 in
theorem rm_room0 (l : Launch) (Z : State) (a0 : Array Value) (hw : ∀ d ∈ tables_1, d.before a0 Z = true) (ra : Addr) (rc : Addr) (rd : Addr) (x0 : Int64) (y0 : Int64) (h0 : Heap) (n0 : Nat) (Z0 : n0 ≤ h0.size) (P0 : Fld Z h0 ra "com/example/binlease/binlease/model/Server" "capacity" "[J" (.ref rc)) (P1 : Fld Z h0 ra "com/example/binlease/binlease/model/Server" "load" "[J" (.ref rd)) (P2 : own_AJ Z h0 rc .long (1 : Int32) (own_LJ [x0])) (P3 : own_AJ Z h0 rd .long (1 : Int32) (own_LJ [y0])) :
    own_M l Z (⟨"com/example/binlease/binlease/model/Server", "room", "(I)J"⟩ : MethodName) prog_25_method_9_code 2 (some .long) [] ({ frames := 0, cells := 0, slots := 0, locals := 0 } : Room) #[(.ref ra), (.int (0 : Int32))] h0 (fun v h L => v = some (.long (x0 - y0)) ∧ Fr n0 L ∧ (h = h0)) 0 0 := by
  refine own_body (plainFor_of_name opn_com_example_binlease_binlease_model_Server) ?_
  intro p e s m below meth c s1 hx hby hml hown hnm hret hlk hZ X0 e0
  rw [oef_rm_room0 m ra]
  have N0 := Fr.nil n0
  refine own_aloadN X0 hx (hb hby od_prog_25_method_9_0) rfl rfl (pc' := 1) rfl ?_
  refine own_getF X0 hx hZ hown (ow_24 hw) e0 P0 (hb hby od_prog_25_method_9_1) (pc' := 4) rfl ?_
  intro T1 X1 e1
  refine own_iloadN X1 hx (hb hby od_prog_25_method_9_4) rfl (pc' := 5) rfl ?_
  refine own_laload X1 hx hZ e1 P2 (x := x0) (by decide) rfl (hb hby od_prog_25_method_9_5) (pc' := 6) rfl ?_
  refine own_aloadN X1 hx (hb hby od_prog_25_method_9_6) rfl rfl (pc' := 7) rfl ?_
  refine own_getF X1 hx hZ hown (ow_26 hw) e1 P1 (hb hby od_prog_25_method_9_7) (pc' := 10) rfl ?_
  intro T2 X2 e2
  refine own_iloadN X2 hx (hb hby od_prog_25_method_9_10) rfl (pc' := 11) rfl ?_
  refine own_laload X2 hx hZ e2 P3 (x := y0) (by decide) rfl (hb hby od_prog_25_method_9_11) (pc' := 12) rfl ?_
  refine own_lsub X2 hx (hb hby od_prog_25_method_9_12) (pc' := 13) rfl ?_
  exact own_retL X2 hx hret hlk (hb hby od_prog_25_method_9_13) ⟨rfl, N0, e2⟩ (by decide) (by decide)
theorem od_prog_24_method_3_0 : decode prog_24_method_3_code 0 = .ok (.aload_n 0, 1) := by decide +kernel
theorem od_prog_24_method_3_1 : decode prog_24_method_3_code 1 = .ok (.invokespecial 20, 3) := by decide +kernel
theorem ow_47 {Z : State} {a0 : Array Value} (hw : ∀ d ∈ tables_1, d.before a0 Z = true) : (Jvm.Cond.methodLink "com/example/binlease/binlease/model/Job" (20 : Nat) ({ cls := "java/lang/Object", name := "<init>", desc := "()V" } : Jvm.MethodName)).before a0 Z = true := hw _ (List.mem_of_getElem? (i := 47) rfl)
theorem od_prog_24_method_3_4 : decode prog_24_method_3_code 4 = .ok (.aload 7, 2) := by decide +kernel
theorem od_prog_24_method_3_6 : decode prog_24_method_3_code 6 = .ok (.arraylength, 1) := by decide +kernel
theorem od_prog_24_method_3_7 : decode prog_24_method_3_code 7 = .ok (.ifCond .ne 17, 3) := by decide +kernel
theorem od_prog_24_method_3_24 : decode prog_24_method_3_code 24 = .ok (.aload 7, 2) := by decide +kernel
theorem od_prog_24_method_3_26 : decode prog_24_method_3_code 26 = .ok (.astore 8, 2) := by decide +kernel
theorem od_prog_24_method_3_28 : decode prog_24_method_3_code 28 = .ok (.aload 8, 2) := by decide +kernel
theorem od_prog_24_method_3_30 : decode prog_24_method_3_code 30 = .ok (.arraylength, 1) := by decide +kernel
theorem od_prog_24_method_3_31 : decode prog_24_method_3_code 31 = .ok (.istore 9, 2) := by decide +kernel
theorem od_prog_24_method_3_33 : decode prog_24_method_3_code 33 = .ok (.iconst 0, 1) := by decide +kernel
theorem od_prog_24_method_3_34 : decode prog_24_method_3_code 34 = .ok (.istore 10, 2) := by decide +kernel
theorem od_prog_24_method_3_36 : decode prog_24_method_3_code 36 = .ok (.iload 10, 2) := by decide +kernel
theorem od_prog_24_method_3_38 : decode prog_24_method_3_code 38 = .ok (.iload 9, 2) := by decide +kernel
theorem od_prog_24_method_3_40 : decode prog_24_method_3_code 40 = .ok (.if_icmp .ge 37, 3) := by decide +kernel
theorem od_prog_24_method_3_43 : decode prog_24_method_3_code 43 = .ok (.aload 8, 2) := by decide +kernel
theorem od_prog_24_method_3_45 : decode prog_24_method_3_code 45 = .ok (.iload 10, 2) := by decide +kernel
theorem od_prog_24_method_3_47 : decode prog_24_method_3_code 47 = .ok (.laload, 1) := by decide +kernel
theorem od_prog_24_method_3_48 : decode prog_24_method_3_code 48 = .ok (.lstore 11, 2) := by decide +kernel
theorem od_prog_24_method_3_50 : decode prog_24_method_3_code 50 = .ok (.lload 11, 2) := by decide +kernel
theorem od_prog_24_method_3_52 : decode prog_24_method_3_code 52 = .ok (.lconst 0, 1) := by decide +kernel
theorem od_prog_24_method_3_53 : decode prog_24_method_3_code 53 = .ok (.lcmp, 1) := by decide +kernel
theorem od_prog_24_method_3_54 : decode prog_24_method_3_code 54 = .ok (.ifCond .ge 17, 3) := by decide +kernel
theorem od_prog_24_method_3_71 : decode prog_24_method_3_code 71 = .ok (.iinc 10 1, 3) := by decide +kernel
theorem od_prog_24_method_3_74 : decode prog_24_method_3_code 74 = .ok (.goto (-38), 3) := by decide +kernel
theorem od_prog_24_method_3_77 : decode prog_24_method_3_code 77 = .ok (.aload_n 0, 1) := by decide +kernel
theorem od_prog_24_method_3_78 : decode prog_24_method_3_code 78 = .ok (.aload_n 1, 1) := by decide +kernel
theorem od_prog_24_method_3_79 : decode prog_24_method_3_code 79 = .ok (.putfield 27, 3) := by decide +kernel
theorem ow_48 {Z : State} {a0 : Array Value} (hw : ∀ d ∈ tables_1, d.before a0 Z = true) : (Jvm.Cond.fieldLink "com/example/binlease/binlease/model/Job" (27 : Nat) "com/example/binlease/binlease/model/Job" "id" "Ljava/lang/String;").before a0 Z = true := hw _ (List.mem_of_getElem? (i := 48) rfl)
theorem ow_49 {Z : State} {a0 : Array Value} (hw : ∀ d ∈ tables_1, d.before a0 Z = true) : (Jvm.Cond.laysFinal "com/example/binlease/binlease/model/Job" "com/example/binlease/binlease/model/Job" "id" "Ljava/lang/String;").before a0 Z = true := hw _ (List.mem_of_getElem? (i := 49) rfl)
theorem ow_31 {Z : State} {a0 : Array Value} (hw : ∀ d ∈ tables_1, d.before a0 Z = true) : (Jvm.Cond.instantiable "com/example/binlease/binlease/model/Job" (5 : Nat)).before a0 Z = true := hw _ (List.mem_of_getElem? (i := 31) rfl)
theorem od_prog_24_method_3_82 : decode prog_24_method_3_code 82 = .ok (.aload_n 0, 1) := by decide +kernel
theorem od_prog_24_method_3_83 : decode prog_24_method_3_code 83 = .ok (.lload_n 2, 1) := by decide +kernel
theorem od_prog_24_method_3_84 : decode prog_24_method_3_code 84 = .ok (.putfield 31, 3) := by decide +kernel
theorem ow_50 {Z : State} {a0 : Array Value} (hw : ∀ d ∈ tables_1, d.before a0 Z = true) : (Jvm.Cond.fieldLink "com/example/binlease/binlease/model/Job" (31 : Nat) "com/example/binlease/binlease/model/Job" "arrival" "J").before a0 Z = true := hw _ (List.mem_of_getElem? (i := 50) rfl)
theorem ow_51 {Z : State} {a0 : Array Value} (hw : ∀ d ∈ tables_1, d.before a0 Z = true) : (Jvm.Cond.laysFinal "com/example/binlease/binlease/model/Job" "com/example/binlease/binlease/model/Job" "arrival" "J").before a0 Z = true := hw _ (List.mem_of_getElem? (i := 51) rfl)
theorem osn_20 {Z : State} {a0 : Array Value} (hw : ∀ d ∈ tables_1, d.before a0 Z = true) : RoadKit.slotOf Z "com/example/binlease/binlease/model/Job" "arrival" "J" ≠ RoadKit.slotOf Z "com/example/binlease/binlease/model/Job" "id" "Ljava/lang/String;" := slot_ne (C := "com/example/binlease/binlease/model/Job") (Or.inr (ow_51 hw)) (Or.inr (ow_49 hw)) (by decide) (t := .long) (t' := (.object "java/lang/String")) (by decide) (by decide)
theorem od_prog_24_method_3_87 : decode prog_24_method_3_code 87 = .ok (.aload_n 0, 1) := by decide +kernel
theorem od_prog_24_method_3_88 : decode prog_24_method_3_code 88 = .ok (.lload 4, 2) := by decide +kernel
theorem od_prog_24_method_3_90 : decode prog_24_method_3_code 90 = .ok (.putfield 35, 3) := by decide +kernel
theorem ow_52 {Z : State} {a0 : Array Value} (hw : ∀ d ∈ tables_1, d.before a0 Z = true) : (Jvm.Cond.fieldLink "com/example/binlease/binlease/model/Job" (35 : Nat) "com/example/binlease/binlease/model/Job" "departure" "J").before a0 Z = true := hw _ (List.mem_of_getElem? (i := 52) rfl)
theorem ow_53 {Z : State} {a0 : Array Value} (hw : ∀ d ∈ tables_1, d.before a0 Z = true) : (Jvm.Cond.laysFinal "com/example/binlease/binlease/model/Job" "com/example/binlease/binlease/model/Job" "departure" "J").before a0 Z = true := hw _ (List.mem_of_getElem? (i := 53) rfl)
theorem osn_21 {Z : State} {a0 : Array Value} (hw : ∀ d ∈ tables_1, d.before a0 Z = true) : RoadKit.slotOf Z "com/example/binlease/binlease/model/Job" "departure" "J" ≠ RoadKit.slotOf Z "com/example/binlease/binlease/model/Job" "id" "Ljava/lang/String;" := slot_ne (C := "com/example/binlease/binlease/model/Job") (Or.inr (ow_53 hw)) (Or.inr (ow_49 hw)) (by decide) (t := .long) (t' := (.object "java/lang/String")) (by decide) (by decide)
theorem osn_22 {Z : State} {a0 : Array Value} (hw : ∀ d ∈ tables_1, d.before a0 Z = true) : RoadKit.slotOf Z "com/example/binlease/binlease/model/Job" "departure" "J" ≠ RoadKit.slotOf Z "com/example/binlease/binlease/model/Job" "arrival" "J" := slot_ne (C := "com/example/binlease/binlease/model/Job") (Or.inr (ow_53 hw)) (Or.inr (ow_51 hw)) (by decide) (t := .long) (t' := .long) (by decide) (by decide)
theorem od_prog_24_method_3_93 : decode prog_24_method_3_code 93 = .ok (.aload_n 0, 1) := by decide +kernel
theorem od_prog_24_method_3_94 : decode prog_24_method_3_code 94 = .ok (.iload 6, 2) := by decide +kernel
theorem od_prog_24_method_3_96 : decode prog_24_method_3_code 96 = .ok (.putfield 38, 3) := by decide +kernel
theorem ow_54 {Z : State} {a0 : Array Value} (hw : ∀ d ∈ tables_1, d.before a0 Z = true) : (Jvm.Cond.fieldLink "com/example/binlease/binlease/model/Job" (38 : Nat) "com/example/binlease/binlease/model/Job" "departureKnown" "Z").before a0 Z = true := hw _ (List.mem_of_getElem? (i := 54) rfl)
theorem ow_55 {Z : State} {a0 : Array Value} (hw : ∀ d ∈ tables_1, d.before a0 Z = true) : (Jvm.Cond.laysFinal "com/example/binlease/binlease/model/Job" "com/example/binlease/binlease/model/Job" "departureKnown" "Z").before a0 Z = true := hw _ (List.mem_of_getElem? (i := 55) rfl)
theorem osn_23 {Z : State} {a0 : Array Value} (hw : ∀ d ∈ tables_1, d.before a0 Z = true) : RoadKit.slotOf Z "com/example/binlease/binlease/model/Job" "departureKnown" "Z" ≠ RoadKit.slotOf Z "com/example/binlease/binlease/model/Job" "id" "Ljava/lang/String;" := slot_ne (C := "com/example/binlease/binlease/model/Job") (Or.inr (ow_55 hw)) (Or.inr (ow_49 hw)) (by decide) (t := .boolean) (t' := (.object "java/lang/String")) (by decide) (by decide)
theorem osn_24 {Z : State} {a0 : Array Value} (hw : ∀ d ∈ tables_1, d.before a0 Z = true) : RoadKit.slotOf Z "com/example/binlease/binlease/model/Job" "departureKnown" "Z" ≠ RoadKit.slotOf Z "com/example/binlease/binlease/model/Job" "arrival" "J" := slot_ne (C := "com/example/binlease/binlease/model/Job") (Or.inr (ow_55 hw)) (Or.inr (ow_51 hw)) (by decide) (t := .boolean) (t' := .long) (by decide) (by decide)
theorem osn_25 {Z : State} {a0 : Array Value} (hw : ∀ d ∈ tables_1, d.before a0 Z = true) : RoadKit.slotOf Z "com/example/binlease/binlease/model/Job" "departureKnown" "Z" ≠ RoadKit.slotOf Z "com/example/binlease/binlease/model/Job" "departure" "J" := slot_ne (C := "com/example/binlease/binlease/model/Job") (Or.inr (ow_55 hw)) (Or.inr (ow_53 hw)) (by decide) (t := .boolean) (t' := .long) (by decide) (by decide)
theorem od_prog_24_method_3_99 : decode prog_24_method_3_code 99 = .ok (.aload_n 0, 1) := by decide +kernel
theorem od_prog_24_method_3_100 : decode prog_24_method_3_code 100 = .ok (.aload 7, 2) := by decide +kernel
theorem od_prog_24_method_3_102 : decode prog_24_method_3_code 102 = .ok (.invokevirtual 42, 3) := by decide +kernel
theorem ow_56 {Z : State} {a0 : Array Value} (hw : ∀ d ∈ tables_1, d.before a0 Z = true) : (Jvm.Cond.methodLink "com/example/binlease/binlease/model/Job" (42 : Nat) ({ cls := "[J", name := "clone", desc := "()Ljava/lang/Object;" } : Jvm.MethodName)).before a0 Z = true := hw _ (List.mem_of_getElem? (i := 56) rfl)
theorem od_prog_24_method_3_105 : decode prog_24_method_3_code 105 = .ok (.checkcast 43, 3) := by decide +kernel
theorem ow_57 {Z : State} {a0 : Array Value} (hw : ∀ d ∈ tables_1, d.before a0 Z = true) : (Jvm.Cond.classLink "com/example/binlease/binlease/model/Job" (43 : Nat) "[J").before a0 Z = true := hw _ (List.mem_of_getElem? (i := 57) rfl)
theorem od_prog_24_method_3_108 : decode prog_24_method_3_code 108 = .ok (.putfield 48, 3) := by decide +kernel
theorem ow_58 {Z : State} {a0 : Array Value} (hw : ∀ d ∈ tables_1, d.before a0 Z = true) : (Jvm.Cond.fieldLink "com/example/binlease/binlease/model/Job" (48 : Nat) "com/example/binlease/binlease/model/Job" "sizes" "[J").before a0 Z = true := hw _ (List.mem_of_getElem? (i := 58) rfl)
theorem ow_59 {Z : State} {a0 : Array Value} (hw : ∀ d ∈ tables_1, d.before a0 Z = true) : (Jvm.Cond.laysFinal "com/example/binlease/binlease/model/Job" "com/example/binlease/binlease/model/Job" "sizes" "[J").before a0 Z = true := hw _ (List.mem_of_getElem? (i := 59) rfl)
theorem osn_26 {Z : State} {a0 : Array Value} (hw : ∀ d ∈ tables_1, d.before a0 Z = true) : RoadKit.slotOf Z "com/example/binlease/binlease/model/Job" "sizes" "[J" ≠ RoadKit.slotOf Z "com/example/binlease/binlease/model/Job" "id" "Ljava/lang/String;" := slot_ne (C := "com/example/binlease/binlease/model/Job") (Or.inr (ow_59 hw)) (Or.inr (ow_49 hw)) (by decide) (t := (.array .long)) (t' := (.object "java/lang/String")) (by decide) (by decide)
theorem osn_27 {Z : State} {a0 : Array Value} (hw : ∀ d ∈ tables_1, d.before a0 Z = true) : RoadKit.slotOf Z "com/example/binlease/binlease/model/Job" "sizes" "[J" ≠ RoadKit.slotOf Z "com/example/binlease/binlease/model/Job" "arrival" "J" := slot_ne (C := "com/example/binlease/binlease/model/Job") (Or.inr (ow_59 hw)) (Or.inr (ow_51 hw)) (by decide) (t := (.array .long)) (t' := .long) (by decide) (by decide)
theorem osn_28 {Z : State} {a0 : Array Value} (hw : ∀ d ∈ tables_1, d.before a0 Z = true) : RoadKit.slotOf Z "com/example/binlease/binlease/model/Job" "sizes" "[J" ≠ RoadKit.slotOf Z "com/example/binlease/binlease/model/Job" "departure" "J" := slot_ne (C := "com/example/binlease/binlease/model/Job") (Or.inr (ow_59 hw)) (Or.inr (ow_53 hw)) (by decide) (t := (.array .long)) (t' := .long) (by decide) (by decide)
theorem osn_29 {Z : State} {a0 : Array Value} (hw : ∀ d ∈ tables_1, d.before a0 Z = true) : RoadKit.slotOf Z "com/example/binlease/binlease/model/Job" "sizes" "[J" ≠ RoadKit.slotOf Z "com/example/binlease/binlease/model/Job" "departureKnown" "Z" := slot_ne (C := "com/example/binlease/binlease/model/Job") (Or.inr (ow_59 hw)) (Or.inr (ow_55 hw)) (by decide) (t := (.array .long)) (t' := .boolean) (by decide) (by decide)
theorem od_prog_24_method_3_111 : decode prog_24_method_3_code 111 = .ok (.return_, 1) := by decide +kernel
theorem osn_30 {Z : State} {a0 : Array Value} (hw : ∀ d ∈ tables_1, d.before a0 Z = true) : RoadKit.slotOf Z "com/example/binlease/binlease/model/Job" "id" "Ljava/lang/String;" ≠ RoadKit.slotOf Z "com/example/binlease/binlease/model/Job" "arrival" "J" := slot_ne (C := "com/example/binlease/binlease/model/Job") (Or.inr (ow_49 hw)) (Or.inr (ow_51 hw)) (by decide) (t := (.object "java/lang/String")) (t' := .long) (by decide) (by decide)
theorem osn_31 {Z : State} {a0 : Array Value} (hw : ∀ d ∈ tables_1, d.before a0 Z = true) : RoadKit.slotOf Z "com/example/binlease/binlease/model/Job" "id" "Ljava/lang/String;" ≠ RoadKit.slotOf Z "com/example/binlease/binlease/model/Job" "departure" "J" := slot_ne (C := "com/example/binlease/binlease/model/Job") (Or.inr (ow_49 hw)) (Or.inr (ow_53 hw)) (by decide) (t := (.object "java/lang/String")) (t' := .long) (by decide) (by decide)
theorem osn_32 {Z : State} {a0 : Array Value} (hw : ∀ d ∈ tables_1, d.before a0 Z = true) : RoadKit.slotOf Z "com/example/binlease/binlease/model/Job" "id" "Ljava/lang/String;" ≠ RoadKit.slotOf Z "com/example/binlease/binlease/model/Job" "departureKnown" "Z" := slot_ne (C := "com/example/binlease/binlease/model/Job") (Or.inr (ow_49 hw)) (Or.inr (ow_55 hw)) (by decide) (t := (.object "java/lang/String")) (t' := .boolean) (by decide) (by decide)
theorem osn_33 {Z : State} {a0 : Array Value} (hw : ∀ d ∈ tables_1, d.before a0 Z = true) : RoadKit.slotOf Z "com/example/binlease/binlease/model/Job" "id" "Ljava/lang/String;" ≠ RoadKit.slotOf Z "com/example/binlease/binlease/model/Job" "sizes" "[J" := slot_ne (C := "com/example/binlease/binlease/model/Job") (Or.inr (ow_49 hw)) (Or.inr (ow_59 hw)) (by decide) (t := (.object "java/lang/String")) (t' := (.array .long)) (by decide) (by decide)
theorem osn_34 {Z : State} {a0 : Array Value} (hw : ∀ d ∈ tables_1, d.before a0 Z = true) : RoadKit.slotOf Z "com/example/binlease/binlease/model/Job" "arrival" "J" ≠ RoadKit.slotOf Z "com/example/binlease/binlease/model/Job" "departure" "J" := slot_ne (C := "com/example/binlease/binlease/model/Job") (Or.inr (ow_51 hw)) (Or.inr (ow_53 hw)) (by decide) (t := .long) (t' := .long) (by decide) (by decide)
theorem osn_35 {Z : State} {a0 : Array Value} (hw : ∀ d ∈ tables_1, d.before a0 Z = true) : RoadKit.slotOf Z "com/example/binlease/binlease/model/Job" "arrival" "J" ≠ RoadKit.slotOf Z "com/example/binlease/binlease/model/Job" "departureKnown" "Z" := slot_ne (C := "com/example/binlease/binlease/model/Job") (Or.inr (ow_51 hw)) (Or.inr (ow_55 hw)) (by decide) (t := .long) (t' := .boolean) (by decide) (by decide)
theorem osn_36 {Z : State} {a0 : Array Value} (hw : ∀ d ∈ tables_1, d.before a0 Z = true) : RoadKit.slotOf Z "com/example/binlease/binlease/model/Job" "arrival" "J" ≠ RoadKit.slotOf Z "com/example/binlease/binlease/model/Job" "sizes" "[J" := slot_ne (C := "com/example/binlease/binlease/model/Job") (Or.inr (ow_51 hw)) (Or.inr (ow_59 hw)) (by decide) (t := .long) (t' := (.array .long)) (by decide) (by decide)
theorem osn_37 {Z : State} {a0 : Array Value} (hw : ∀ d ∈ tables_1, d.before a0 Z = true) : RoadKit.slotOf Z "com/example/binlease/binlease/model/Job" "departure" "J" ≠ RoadKit.slotOf Z "com/example/binlease/binlease/model/Job" "departureKnown" "Z" := slot_ne (C := "com/example/binlease/binlease/model/Job") (Or.inr (ow_53 hw)) (Or.inr (ow_55 hw)) (by decide) (t := .long) (t' := .boolean) (by decide) (by decide)
theorem osn_38 {Z : State} {a0 : Array Value} (hw : ∀ d ∈ tables_1, d.before a0 Z = true) : RoadKit.slotOf Z "com/example/binlease/binlease/model/Job" "departure" "J" ≠ RoadKit.slotOf Z "com/example/binlease/binlease/model/Job" "sizes" "[J" := slot_ne (C := "com/example/binlease/binlease/model/Job") (Or.inr (ow_53 hw)) (Or.inr (ow_59 hw)) (by decide) (t := .long) (t' := (.array .long)) (by decide) (by decide)
theorem osn_39 {Z : State} {a0 : Array Value} (hw : ∀ d ∈ tables_1, d.before a0 Z = true) : RoadKit.slotOf Z "com/example/binlease/binlease/model/Job" "departureKnown" "Z" ≠ RoadKit.slotOf Z "com/example/binlease/binlease/model/Job" "sizes" "[J" := slot_ne (C := "com/example/binlease/binlease/model/Job") (Or.inr (ow_55 hw)) (Or.inr (ow_59 hw)) (by decide) (t := .boolean) (t' := (.array .long)) (by decide) (by decide)
theorem opn_com_example_binlease_binlease_model_Job : plainName "com/example/binlease/binlease/model/Job" = true := by first | (simp [plainName, overriddenIn]; done) | decide +kernel
theorem oef_rm_job2 (m : MethodId) (ra : Addr) (rs : Addr) (u0 : Int64) (u1 : Int64) (rb : Addr) : entryFrame m #[(.ref ra), (.ref rs), (.long u0), (.long u1), (.int (1 : Int32)), (.ref rb)] 13 = mkF m 0 #[.val (.ref ra), .val (.ref rs), .val (.long u0), .second, .val (.long u1), .second, .val (.int (1 : Int32)), .val (.ref rb), .unset, .unset, .unset, .unset, .unset] [] := by first | (simp [entryFrame, mkF, argsToLocals, Value.category]; done) | rfl
set_option maxRecDepth 65536 in
set_option maxHeartbeats 40000000 in
theorem rm_job2 (l : Launch) (Z : State) (a0 : Array Value) (hw : ∀ d ∈ tables_1, d.before a0 Z = true) (ra : Addr) (rs : Addr) (rb : Addr) (u0 : Int64) (u1 : Int64) (x0 : Int64) (w0 : Value) (w1 : Value) (w2 : Value) (w3 : Value) (w4 : Value) (h0 : Heap) (n0 : Nat) (Z0 : n0 ≤ h0.size) (P0 : Exa Z h0 ra "com/example/binlease/binlease/model/Job") (P1 : Exa Z h0 rb "[J") (P2 : own_AJ Z h0 rb .long (1 : Int32) (own_LJ [x0])) (P3 : Fld Z h0 ra "com/example/binlease/binlease/model/Job" "id" "Ljava/lang/String;" (w0)) (P4 : Fld Z h0 ra "com/example/binlease/binlease/model/Job" "arrival" "J" (w1)) (P5 : Fld Z h0 ra "com/example/binlease/binlease/model/Job" "departure" "J" (w2)) (P6 : Fld Z h0 ra "com/example/binlease/binlease/model/Job" "departureKnown" "Z" (w3)) (P7 : Fld Z h0 ra "com/example/binlease/binlease/model/Job" "sizes" "[J" (w4)) (g_ra : n0 ≤ ra) (ne_ra_rb : ra ≠ rb) (hp0 : ¬ (x0 < (0 : Int64))) :
    own_M l Z (⟨"com/example/binlease/binlease/model/Job", "<init>", "(Ljava/lang/String;JJZ[J)V"⟩ : MethodName) prog_24_method_3_code 13 none [] ({ frames := 1, cells := 1, slots := 1, locals := 15 } : Room) #[(.ref ra), (.ref rs), (.long u0), (.long u1), (.int (1 : Int32)), (.ref rb)] h0 (fun v h L => ∃ rc : Addr, v = none ∧ Fr n0 L ∧ (Keep h0 h [ra]) ∧ (h0.size ≤ rc) ∧ (Fld Z h ra "com/example/binlease/binlease/model/Job" "id" "Ljava/lang/String;" (.ref rs)) ∧ (Fld Z h ra "com/example/binlease/binlease/model/Job" "arrival" "J" (.long u0)) ∧ (Fld Z h ra "com/example/binlease/binlease/model/Job" "departure" "J" (.long u1)) ∧ (Fld Z h ra "com/example/binlease/binlease/model/Job" "departureKnown" "Z" (.int (1 : Int32))) ∧ (Fld Z h ra "com/example/binlease/binlease/model/Job" "sizes" "[J" (.ref rc)) ∧ (Exa Z h rc "[J") ∧ (own_AJ Z h rc .long (1 : Int32) (own_LJ [x0]))) 1 1 := by
  refine own_body (plainFor_of_name opn_com_example_binlease_binlease_model_Job) ?_
  intro p e s m below meth c s1 hx hby hml hown hnm hret hlk hZ X0 e0
  rw [oef_rm_job2 m ra rs u0 u1 rb]
  have N0 := Fr.nil n0
  refine own_aloadN X0 hx (hb hby od_prog_24_method_3_0) rfl rfl (pc' := 1) rfl ?_
  refine own_initO X0 hx hZ hown (ow_47 hw) (ow_9 hw) (ow_10 hw) e0 (by rw [hml]; rfl) (hb hby od_prog_24_method_3_1) (by decide) (W := 0) (Nat.le_of_eq rfl) (by decide) (pc' := 4) rfl ?_
  intro T1 X1 e1
  refine own_aload X1 hx (hb hby od_prog_24_method_3_4) rfl rfl (pc' := 6) rfl ?_
  refine own_lenJ X1 hx hZ e1 P2 (hb hby od_prog_24_method_3_6) (pc' := 7) rfl ?_
  refine own_ifT X1 hx (hb hby od_prog_24_method_3_7) (by decide) (by decide) (pc' := 24) rfl ?_
  refine own_aload X1 hx (hb hby od_prog_24_method_3_24) rfl rfl (pc' := 26) rfl ?_
  refine own_astore X1 hx (hb hby od_prog_24_method_3_26) rfl (l' := #[.val (.ref ra), .val (.ref rs), .val (.long u0), .second, .val (.long u1), .second, .val (.int (1 : Int32)), .val (.ref rb), .val (.ref rb), .unset, .unset, .unset, .unset]) rfl (pc' := 28) rfl ?_
  refine own_aload X1 hx (hb hby od_prog_24_method_3_28) rfl rfl (pc' := 30) rfl ?_
  refine own_lenJ X1 hx hZ e1 P2 (hb hby od_prog_24_method_3_30) (pc' := 31) rfl ?_
  refine own_istore X1 hx (hb hby od_prog_24_method_3_31) (l' := #[.val (.ref ra), .val (.ref rs), .val (.long u0), .second, .val (.long u1), .second, .val (.int (1 : Int32)), .val (.ref rb), .val (.ref rb), .val (.int (1 : Int32)), .unset, .unset, .unset]) rfl (pc' := 33) rfl ?_
  refine own_iconst X1 hx (hb hby od_prog_24_method_3_33) (z := (0 : Int32)) rfl (pc' := 34) rfl ?_
  refine own_istore X1 hx (hb hby od_prog_24_method_3_34) (l' := #[.val (.ref ra), .val (.ref rs), .val (.long u0), .second, .val (.long u1), .second, .val (.int (1 : Int32)), .val (.ref rb), .val (.ref rb), .val (.int (1 : Int32)), .val (.int (0 : Int32)), .unset, .unset]) rfl (pc' := 36) rfl ?_
  refine own_iload X1 hx (hb hby od_prog_24_method_3_36) rfl (pc' := 38) rfl ?_
  refine own_iload X1 hx (hb hby od_prog_24_method_3_38) rfl (pc' := 40) rfl ?_
  refine own_icmpF X1 hx (hb hby od_prog_24_method_3_40) (by decide) (pc' := 43) rfl ?_
  refine own_aload X1 hx (hb hby od_prog_24_method_3_43) rfl rfl (pc' := 45) rfl ?_
  refine own_iload X1 hx (hb hby od_prog_24_method_3_45) rfl (pc' := 47) rfl ?_
  refine own_laload X1 hx hZ e1 P2 (x := x0) (by decide) rfl (hb hby od_prog_24_method_3_47) (pc' := 48) rfl ?_
  refine own_lstore X1 hx (hb hby od_prog_24_method_3_48) (l' := #[.val (.ref ra), .val (.ref rs), .val (.long u0), .second, .val (.long u1), .second, .val (.int (1 : Int32)), .val (.ref rb), .val (.ref rb), .val (.int (1 : Int32)), .val (.int (0 : Int32)), .val (.long x0), .second]) rfl (pc' := 50) rfl ?_
  refine own_lload X1 hx (hb hby od_prog_24_method_3_50) rfl (pc' := 52) rfl ?_
  refine own_lconst X1 hx (hb hby od_prog_24_method_3_52) (z := (0 : Int64)) (by decide) (pc' := 53) rfl ?_
  refine own_lcmp X1 hx (hb hby od_prog_24_method_3_53) (pc' := 54) rfl ?_
  refine own_ifT X1 hx (hb hby od_prog_24_method_3_54) (own_geL hp0).2.1 (by decide) (pc' := 71) rfl ?_
  refine own_iinc X1 hx (hb hby od_prog_24_method_3_71) rfl (z := (1 : Int32)) rfl (l' := #[.val (.ref ra), .val (.ref rs), .val (.long u0), .second, .val (.long u1), .second, .val (.int (1 : Int32)), .val (.ref rb), .val (.ref rb), .val (.int (1 : Int32)), .val (.int (1 : Int32)), .val (.long x0), .second]) rfl (pc' := 74) rfl ?_
  refine own_goto X1 hx (hb hby od_prog_24_method_3_74) (by decide) (pc' := 36) rfl ?_
  refine own_iload X1 hx (hb hby od_prog_24_method_3_36) rfl (pc' := 38) rfl ?_
  refine own_iload X1 hx (hb hby od_prog_24_method_3_38) rfl (pc' := 40) rfl ?_
  refine own_icmpT X1 hx (hb hby od_prog_24_method_3_40) (by decide) (by decide) (pc' := 77) rfl ?_
  refine own_aloadN X1 hx (hb hby od_prog_24_method_3_77) rfl rfl (pc' := 78) rfl ?_
  refine own_aloadN X1 hx (hb hby od_prog_24_method_3_78) rfl rfl (pc' := 79) rfl ?_
  refine own_putF X1 hx hZ hown (ow_48 hw) e1 P3 P0 (Or.inr ⟨(ow_49 hw), rfl, hnm⟩) (ow_31 hw) (ty := (.object "java/lang/String")) (by decide) rfl rfl (hb hby od_prog_24_method_3_79) (pc' := 82) rfl ?_
  intro T2 h2 X2 e2 W2
  have N2 := Fr.snoc X2 N0 g_ra
  refine own_aloadN X2 hx (hb hby od_prog_24_method_3_82) rfl rfl (pc' := 83) rfl ?_
  refine own_lloadN X2 hx (hb hby od_prog_24_method_3_83) rfl (pc' := 84) rfl ?_
  have f3 : Fld Z h2 ra "com/example/binlease/binlease/model/Job" "arrival" "J" (w1) := (P4.other W2 (Or.inr (osn_20 hw)))
  have f4 : Exa Z h2 ra "com/example/binlease/binlease/model/Job" := (P0.wr W2)
  refine own_putF X2 hx hZ hown (ow_50 hw) e2 f3 f4 (Or.inr ⟨(ow_51 hw), rfl, hnm⟩) (ow_31 hw) (ty := .long) (by decide) rfl rfl (hb hby od_prog_24_method_3_84) (pc' := 87) rfl ?_
  intro T5 h5 X5 e5 W5
  have N5 := Fr.snoc X5 N2 g_ra
  refine own_aloadN X5 hx (hb hby od_prog_24_method_3_87) rfl rfl (pc' := 88) rfl ?_
  refine own_lload X5 hx (hb hby od_prog_24_method_3_88) rfl (pc' := 90) rfl ?_
  have f6 : Fld Z h5 ra "com/example/binlease/binlease/model/Job" "departure" "J" (w2) := ((P5.other W2 (Or.inr (osn_21 hw))).other W5 (Or.inr (osn_22 hw)))
  have f7 : Exa Z h5 ra "com/example/binlease/binlease/model/Job" := (f4.wr W5)
  refine own_putF X5 hx hZ hown (ow_52 hw) e5 f6 f7 (Or.inr ⟨(ow_53 hw), rfl, hnm⟩) (ow_31 hw) (ty := .long) (by decide) rfl rfl (hb hby od_prog_24_method_3_90) (pc' := 93) rfl ?_
  intro T8 h8 X8 e8 W8
  have N8 := Fr.snoc X8 N5 g_ra
  refine own_aloadN X8 hx (hb hby od_prog_24_method_3_93) rfl rfl (pc' := 94) rfl ?_
  refine own_iload X8 hx (hb hby od_prog_24_method_3_94) rfl (pc' := 96) rfl ?_
  have f9 : Fld Z h8 ra "com/example/binlease/binlease/model/Job" "departureKnown" "Z" (w3) := (((P6.other W2 (Or.inr (osn_23 hw))).other W5 (Or.inr (osn_24 hw))).other W8 (Or.inr (osn_25 hw)))
  have f10 : Exa Z h8 ra "com/example/binlease/binlease/model/Job" := (f7.wr W8)
  refine own_putF X8 hx hZ hown (ow_54 hw) e8 f9 f10 (Or.inr ⟨(ow_55 hw), rfl, hnm⟩) (ow_31 hw) (ty := .boolean) (by decide) rfl rfl (hb hby od_prog_24_method_3_96) (pc' := 99) rfl ?_
  intro T11 h11 X11 e11 W11
  have N11 := Fr.snoc X11 N8 g_ra
  refine own_aloadN X11 hx (hb hby od_prog_24_method_3_99) rfl rfl (pc' := 100) rfl ?_
  refine own_aload X11 hx (hb hby od_prog_24_method_3_100) rfl rfl (pc' := 102) rfl ?_
  have z13 : n0 ≤ h11.size := (Nat.le_trans (Nat.le_trans (Nat.le_trans (Nat.le_trans Z0 (Nat.le_of_eq (Wr.size W2).symm)) (Nat.le_of_eq (Wr.size W5).symm)) (Nat.le_of_eq (Wr.size W8).symm)) (Nat.le_of_eq (Wr.size W11).symm))
  have f14 : Exa Z h11 ra "com/example/binlease/binlease/model/Job" := (f10.wr W11)
  have f15 : Exa Z h11 rb "[J" := ((((P1.wr W2).wr W5).wr W8).wr W11)
  have f16 : own_AJ Z h11 rb .long (1 : Int32) (own_LJ [x0]) := ((((P2.other W2 (Ne.symm ne_ra_rb)).other W5 (Ne.symm ne_ra_rb)).other W8 (Ne.symm ne_ra_rb)).other W11 (Ne.symm ne_ra_rb))
  refine own_clone X11 hx hZ hown (ow_56 hw) (ow_16 hw) (ow_20 hw) (ow_18 hw) (ow_19 hw) (ow_21 hw) e11 f16 f15 (by rw [hml]; rfl) (hb hby od_prog_24_method_3_102) (by decide) (W := 1) (cap := 1) (Nat.le_of_eq rfl) (by decide) (by decide) (by decide) (by decide) (pc' := 105) rfl ?_
  intro T12 h12 a12 g12 X12 e12 E12 A12 Bx12
  have lt_ra_a12 : ra < a12 := by rw [g12]; exact f14.lt
  have lt_rb_a12 : rb < a12 := by rw [g12]; exact f15.lt
  have ge_a12 : n0 ≤ a12 := by rw [g12]; exact z13
  have gn_a12 : h0.size ≤ a12 := by rw [g12]; exact (Nat.le_trans (Nat.le_trans (Nat.le_trans (Nat.le_trans (Nat.le_refl _) (Nat.le_of_eq (Wr.size W2).symm)) (Nat.le_of_eq (Wr.size W5).symm)) (Nat.le_of_eq (Wr.size W8).symm)) (Nat.le_of_eq (Wr.size W11).symm))
  refine own_checkcast X12 hx hZ hown (ow_57 hw) e12 Bx12 (hb hby od_prog_24_method_3_105) (pc' := 108) rfl ?_
  intro T17 X17 e17
  have f18 : Fld Z h12 ra "com/example/binlease/binlease/model/Job" "sizes" "[J" (w4) := (((((P7.other W2 (Or.inr (osn_26 hw))).other W5 (Or.inr (osn_27 hw))).other W8 (Or.inr (osn_28 hw))).other W11 (Or.inr (osn_29 hw))).ext E12)
  have f19 : Exa Z h12 ra "com/example/binlease/binlease/model/Job" := (f14.ext E12)
  refine own_putF X17 hx hZ hown (ow_58 hw) e17 f18 f19 (Or.inr ⟨(ow_59 hw), rfl, hnm⟩) (ow_31 hw) (ty := (.array .long)) (by decide) rfl rfl (hb hby od_prog_24_method_3_108) (pc' := 111) rfl ?_
  intro T20 h20 X20 e20 W20
  have N20 := Fr.snoc X20 N11 g_ra
  have k27 : Keep h0 h20 [ra] := (Keep.wr (Keep.ext (Keep.wr (Keep.wr (Keep.wr (Keep.wr (Keep.refl _ _) W2 (Or.inl (List.mem_of_getElem? (i := 0) rfl))) W5 (Or.inl (List.mem_of_getElem? (i := 0) rfl))) W8 (Or.inl (List.mem_of_getElem? (i := 0) rfl))) W11 (Or.inl (List.mem_of_getElem? (i := 0) rfl))) E12) W20 (Or.inl (List.mem_of_getElem? (i := 0) rfl)))
  have f28 : Fld Z h20 ra "com/example/binlease/binlease/model/Job" "id" "Ljava/lang/String;" (.ref rs) := ((((((P3.same W2).other W5 (Or.inr (osn_30 hw))).other W8 (Or.inr (osn_31 hw))).other W11 (Or.inr (osn_32 hw))).ext E12).other W20 (Or.inr (osn_33 hw)))
  have f29 : Fld Z h20 ra "com/example/binlease/binlease/model/Job" "arrival" "J" (.long u0) := (((((f3.same W5).other W8 (Or.inr (osn_34 hw))).other W11 (Or.inr (osn_35 hw))).ext E12).other W20 (Or.inr (osn_36 hw)))
  have f30 : Fld Z h20 ra "com/example/binlease/binlease/model/Job" "departure" "J" (.long u1) := ((((f6.same W8).other W11 (Or.inr (osn_37 hw))).ext E12).other W20 (Or.inr (osn_38 hw)))
  have f31 : Fld Z h20 ra "com/example/binlease/binlease/model/Job" "departureKnown" "Z" (.int (1 : Int32)) := (((f9.same W11).ext E12).other W20 (Or.inr (osn_39 hw)))
  have f32 : Exa Z h20 a12 "[J" := (Bx12.wr W20)
  have f33 : own_AJ Z h20 a12 .long (1 : Int32) (own_LJ [x0]) := (A12.other W20 (Nat.ne_of_gt lt_ra_a12))
  exact own_retV X20 hx hret hlk (hb hby od_prog_24_method_3_111) ⟨a12, rfl, N20, (by rw [e20]; exact k27), gn_a12, (by rw [e20]; exact f28), (by rw [e20]; exact f29), (by rw [e20]; exact f30), (by rw [e20]; exact f31), (by rw [e20]; exact (f18.same W20)), (by rw [e20]; exact f32), (by rw [e20]; exact f33)⟩ (by decide) (by decide)
theorem od_prog_24_method_2_0 : decode prog_24_method_2_code 0 = .ok (.aload_n 0, 1) := by decide +kernel
theorem od_prog_24_method_2_1 : decode prog_24_method_2_code 1 = .ok (.aload_n 1, 1) := by decide +kernel
theorem od_prog_24_method_2_2 : decode prog_24_method_2_code 2 = .ok (.lload_n 2, 1) := by decide +kernel
theorem od_prog_24_method_2_3 : decode prog_24_method_2_code 3 = .ok (.lload 4, 2) := by decide +kernel
theorem od_prog_24_method_2_5 : decode prog_24_method_2_code 5 = .ok (.iconst 1, 1) := by decide +kernel
theorem od_prog_24_method_2_6 : decode prog_24_method_2_code 6 = .ok (.aload 6, 2) := by decide +kernel
theorem od_prog_24_method_2_8 : decode prog_24_method_2_code 8 = .ok (.invokespecial 7, 3) := by decide +kernel
theorem ow_44 {Z : State} {a0 : Array Value} (hw : ∀ d ∈ tables_1, d.before a0 Z = true) : (Jvm.Cond.methodLink "com/example/binlease/binlease/model/Job" (7 : Nat) ({ cls := "com/example/binlease/binlease/model/Job", name := "<init>", desc := "(Ljava/lang/String;JJZ[J)V" } : Jvm.MethodName)).before a0 Z = true := hw _ (List.mem_of_getElem? (i := 44) rfl)
theorem opd__Ljava_lang_String_JJZ_J_V : parseMethodDescriptor "(Ljava/lang/String;JJZ[J)V" = some ⟨[(.object "java/lang/String"), .long, .long, .boolean, (.array .long)], none⟩ := by decide +kernel
theorem ow_45 {Z : State} {a0 : Array Value} (hw : ∀ d ∈ tables_1, d.before a0 Z = true) : (Jvm.Cond.instanceMethod ({ cls := "com/example/binlease/binlease/model/Job", name := "<init>", desc := "(Ljava/lang/String;JJZ[J)V" } : Jvm.MethodName)).before a0 Z = true := hw _ (List.mem_of_getElem? (i := 45) rfl)
theorem ow_32 {Z : State} {a0 : Array Value} (hw : ∀ d ∈ tables_1, d.before a0 Z = true) : (Jvm.Cond.initialized "com/example/binlease/binlease/model/Job").before a0 Z = true := hw _ (List.mem_of_getElem? (i := 32) rfl)
theorem ow_46 {Z : State} {a0 : Array Value} (hw : ∀ d ∈ tables_1, d.before a0 Z = true) : (Jvm.Cond.code ({ cls := "com/example/binlease/binlease/model/Job", name := "<init>", desc := "(Ljava/lang/String;JJZ[J)V" } : Jvm.MethodName) prog_24_method_3_code (13 : Nat) (Option.none : Option Jvm.ClassFile.FieldType)).before a0 Z = true := hw _ (List.mem_of_getElem? (i := 46) rfl)
theorem od_prog_24_method_2_11 : decode prog_24_method_2_code 11 = .ok (.lload 4, 2) := by decide +kernel
theorem od_prog_24_method_2_13 : decode prog_24_method_2_code 13 = .ok (.lload_n 2, 1) := by decide +kernel
theorem od_prog_24_method_2_14 : decode prog_24_method_2_code 14 = .ok (.lcmp, 1) := by decide +kernel
theorem od_prog_24_method_2_15 : decode prog_24_method_2_code 15 = .ok (.ifCond .ge 17, 3) := by decide +kernel
theorem od_prog_24_method_2_32 : decode prog_24_method_2_code 32 = .ok (.return_, 1) := by decide +kernel
theorem oef_rm_job1 (m : MethodId) (ra : Addr) (rs : Addr) (u0 : Int64) (u1 : Int64) (rb : Addr) : entryFrame m #[(.ref ra), (.ref rs), (.long u0), (.long u1), (.ref rb)] 7 = mkF m 0 #[.val (.ref ra), .val (.ref rs), .val (.long u0), .second, .val (.long u1), .second, .val (.ref rb)] [] := by first | (simp [entryFrame, mkF, argsToLocals, Value.category]; done) | rfl
set_option maxRecDepth 65536 in
set_option maxHeartbeats 40000000 in
theorem rm_job1 (l : Launch) (Z : State) (a0 : Array Value) (hw : ∀ d ∈ tables_1, d.before a0 Z = true) (ra : Addr) (rs : Addr) (rb : Addr) (u0 : Int64) (u1 : Int64) (x0 : Int64) (w0 : Value) (w1 : Value) (w2 : Value) (w3 : Value) (w4 : Value) (h0 : Heap) (n0 : Nat) (Z0 : n0 ≤ h0.size) (P0 : Exa Z h0 ra "com/example/binlease/binlease/model/Job") (P1 : Exa Z h0 rb "[J") (P2 : own_AJ Z h0 rb .long (1 : Int32) (own_LJ [x0])) (P3 : Fld Z h0 ra "com/example/binlease/binlease/model/Job" "id" "Ljava/lang/String;" (w0)) (P4 : Fld Z h0 ra "com/example/binlease/binlease/model/Job" "arrival" "J" (w1)) (P5 : Fld Z h0 ra "com/example/binlease/binlease/model/Job" "departure" "J" (w2)) (P6 : Fld Z h0 ra "com/example/binlease/binlease/model/Job" "departureKnown" "Z" (w3)) (P7 : Fld Z h0 ra "com/example/binlease/binlease/model/Job" "sizes" "[J" (w4)) (g_ra : n0 ≤ ra) (ne_ra_rb : ra ≠ rb) (hp0 : ¬ (x0 < (0 : Int64))) (hq : ¬ (u1 < u0)) :
    own_M l Z (⟨"com/example/binlease/binlease/model/Job", "<init>", "(Ljava/lang/String;JJ[J)V"⟩ : MethodName) prog_24_method_2_code 7 none [] ({ frames := 2, cells := 1, slots := 1, locals := 39 } : Room) #[(.ref ra), (.ref rs), (.long u0), (.long u1), (.ref rb)] h0 (fun v h L => ∃ rc : Addr, v = none ∧ Fr n0 L ∧ (Keep h0 h [ra]) ∧ (h0.size ≤ rc) ∧ (Fld Z h ra "com/example/binlease/binlease/model/Job" "id" "Ljava/lang/String;" (.ref rs)) ∧ (Fld Z h ra "com/example/binlease/binlease/model/Job" "arrival" "J" (.long u0)) ∧ (Fld Z h ra "com/example/binlease/binlease/model/Job" "departure" "J" (.long u1)) ∧ (Fld Z h ra "com/example/binlease/binlease/model/Job" "departureKnown" "Z" (.int (1 : Int32))) ∧ (Fld Z h ra "com/example/binlease/binlease/model/Job" "sizes" "[J" (.ref rc)) ∧ (Exa Z h rc "[J") ∧ (own_AJ Z h rc .long (1 : Int32) (own_LJ [x0]))) 1 1 := by
  refine own_body (plainFor_of_name opn_com_example_binlease_binlease_model_Job) ?_
  intro p e s m below meth c s1 hx hby hml hown hnm hret hlk hZ X0 e0
  rw [oef_rm_job1 m ra rs u0 u1 rb]
  have N0 := Fr.nil n0
  refine own_aloadN X0 hx (hb hby od_prog_24_method_2_0) rfl rfl (pc' := 1) rfl ?_
  refine own_aloadN X0 hx (hb hby od_prog_24_method_2_1) rfl rfl (pc' := 2) rfl ?_
  refine own_lloadN X0 hx (hb hby od_prog_24_method_2_2) rfl (pc' := 3) rfl ?_
  refine own_lload X0 hx (hb hby od_prog_24_method_2_3) rfl (pc' := 5) rfl ?_
  refine own_iconst X0 hx (hb hby od_prog_24_method_2_5) (z := (1 : Int32)) rfl (pc' := 6) rfl ?_
  refine own_aload X0 hx (hb hby od_prog_24_method_2_6) rfl rfl (pc' := 8) rfl ?_
  refine own_callC X0 hx hZ rfl hown (ow_44 hw) (ow_45 hw) (ow_32 hw) (ow_46 hw) (by decide) (rm_job2 l Z a0 hw ra rs rb u0 u1 x0 w0 w1 w2 w3 w4 h0 n0 Z0 P0 P1 P2 P3 P4 P5 P6 P7 g_ra ne_ra_rb hp0) e0 (W := 0) (by decide) (by decide) opd__Ljava_lang_String_JJZ_J_V rfl (rest := []) rfl (hb hby od_prog_24_method_2_8) (Nat.le_of_eq rfl) (by rw [hml]; rfl) (by decide) (by decide) (pc' := 11) rfl ?_
  intro v1 T1 L1 X1 q1
  obtain ⟨rc_1, rfl, Nq1, K1, gz1_rc_1, p1_0, p1_1, p1_2, p1_3, p1_4, p1_5, p1_6⟩ := q1
  have lt_ra_rc_1 : ra < rc_1 := Nat.lt_of_lt_of_le P0.lt gz1_rc_1
  have lt_rb_rc_1 : rb < rc_1 := Nat.lt_of_lt_of_le P1.lt gz1_rc_1
  have ge_rc_1 : n0 ≤ rc_1 := Nat.le_trans Z0 gz1_rc_1
  have N1 := Fr.app N0 Nq1
  show own_G p e below _ (T1.setTop (mkF m 11 #[.val (.ref ra), .val (.ref rs), .val (.long u0), .second, .val (.long u1), .second, .val (.ref rb)] []))
  refine own_lload X1 hx (hb hby od_prog_24_method_2_11) rfl (pc' := 13) rfl ?_
  refine own_lloadN X1 hx (hb hby od_prog_24_method_2_13) rfl (pc' := 14) rfl ?_
  refine own_lcmp X1 hx (hb hby od_prog_24_method_2_14) (pc' := 15) rfl ?_
  refine own_ifT X1 hx (hb hby od_prog_24_method_2_15) (own_geL hq).2.1 (by decide) (pc' := 32) rfl ?_
  have k3 : Keep h0 T1.heap [ra] := (Keep.trans (Keep.refl _ _) K1 (allS (Or.inl (List.mem_of_getElem? (i := 0) rfl)) all0))
  exact own_retV X1 hx hret hlk (hb hby od_prog_24_method_2_32) ⟨rc_1, rfl, N1, k3, (Nat.le_trans (Nat.le_refl _) gz1_rc_1), p1_0, p1_1, p1_2, p1_3, p1_4, p1_5, p1_6⟩ (by decide) (by decide)
theorem od_prog_24_method_11_0 : decode prog_24_method_11_code 0 = .ok (.aload_n 0, 1) := by decide +kernel
theorem od_prog_24_method_11_1 : decode prog_24_method_11_code 1 = .ok (.getfield 48, 3) := by decide +kernel
theorem od_prog_24_method_11_4 : decode prog_24_method_11_code 4 = .ok (.iload_n 1, 1) := by decide +kernel
theorem od_prog_24_method_11_5 : decode prog_24_method_11_code 5 = .ok (.laload, 1) := by decide +kernel
theorem od_prog_24_method_11_6 : decode prog_24_method_11_code 6 = .ok (.lreturn, 1) := by decide +kernel
theorem oef_rm_size0 (m : MethodId) (ra : Addr) : entryFrame m #[(.ref ra), (.int (0 : Int32))] 2 = mkF m 0 #[.val (.ref ra), .val (.int (0 : Int32))] [] := by first | (simp [entryFrame, mkF, argsToLocals, Value.category]; done) | rfl
set_option maxRecDepth 65536 in
set_option maxHeartbeats 40000000 in
theorem rm_size0 (l : Launch) (Z : State) (a0 : Array Value) (hw : ∀ d ∈ tables_1, d.before a0 Z = true) (ra : Addr) (rc : Addr) (x0 : Int64) (h0 : Heap) (n0 : Nat) (Z0 : n0 ≤ h0.size) (P0 : Fld Z h0 ra "com/example/binlease/binlease/model/Job" "sizes" "[J" (.ref rc)) (P1 : own_AJ Z h0 rc .long (1 : Int32) (own_LJ [x0])) :
    own_M l Z (⟨"com/example/binlease/binlease/model/Job", "size", "(I)J"⟩ : MethodName) prog_24_method_11_code 2 (some .long) [] ({ frames := 0, cells := 0, slots := 0, locals := 0 } : Room) #[(.ref ra), (.int (0 : Int32))] h0 (fun v h L => v = some (.long x0) ∧ Fr n0 L ∧ (h = h0)) 0 0 := by
  refine own_body (plainFor_of_name opn_com_example_binlease_binlease_model_Job) ?_
  intro p e s m below meth c s1 hx hby hml hown hnm hret hlk hZ X0 e0
  rw [oef_rm_size0 m ra]
  have N0 := Fr.nil n0
  refine own_aloadN X0 hx (hb hby od_prog_24_method_11_0) rfl rfl (pc' := 1) rfl ?_
  refine own_getF X0 hx hZ hown (ow_58 hw) e0 P0 (hb hby od_prog_24_method_11_1) (pc' := 4) rfl ?_
  intro T1 X1 e1
  refine own_iloadN X1 hx (hb hby od_prog_24_method_11_4) rfl (pc' := 5) rfl ?_
  refine own_laload X1 hx hZ e1 P1 (x := x0) (by decide) rfl (hb hby od_prog_24_method_11_5) (pc' := 6) rfl ?_
  exact own_retL X1 hx hret hlk (hb hby od_prog_24_method_11_6) ⟨rfl, N0, e1⟩ (by decide) (by decide)
theorem od_prog_25_method_10_0 : decode prog_25_method_10_code 0 = .ok (.iconst 0, 1) := by decide +kernel
theorem od_prog_25_method_10_1 : decode prog_25_method_10_code 1 = .ok (.istore_n 2, 1) := by decide +kernel
theorem od_prog_25_method_10_2 : decode prog_25_method_10_code 2 = .ok (.iload_n 2, 1) := by decide +kernel
theorem od_prog_25_method_10_3 : decode prog_25_method_10_code 3 = .ok (.aload_n 0, 1) := by decide +kernel
theorem od_prog_25_method_10_4 : decode prog_25_method_10_code 4 = .ok (.getfield 26, 3) := by decide +kernel
theorem od_prog_25_method_10_7 : decode prog_25_method_10_code 7 = .ok (.arraylength, 1) := by decide +kernel
theorem od_prog_25_method_10_8 : decode prog_25_method_10_code 8 = .ok (.if_icmp .ge 25, 3) := by decide +kernel
theorem od_prog_25_method_10_11 : decode prog_25_method_10_code 11 = .ok (.aload_n 1, 1) := by decide +kernel
theorem od_prog_25_method_10_12 : decode prog_25_method_10_code 12 = .ok (.iload_n 2, 1) := by decide +kernel
theorem od_prog_25_method_10_13 : decode prog_25_method_10_code 13 = .ok (.invokevirtual 39, 3) := by decide +kernel
theorem ow_89 {Z : State} {a0 : Array Value} (hw : ∀ d ∈ tables_1, d.before a0 Z = true) : (Jvm.Cond.methodLink "com/example/binlease/binlease/model/Server" (39 : Nat) ({ cls := "com/example/binlease/binlease/model/Job", name := "size", desc := "(I)J" } : Jvm.MethodName)).before a0 Z = true := hw _ (List.mem_of_getElem? (i := 89) rfl)
theorem ow_92 {Z : State} {a0 : Array Value} (hw : ∀ d ∈ tables_1, d.before a0 Z = true) : (Jvm.Cond.selects "com/example/binlease/binlease/model/Job" ({ cls := "com/example/binlease/binlease/model/Job", name := "size", desc := "(I)J" } : Jvm.MethodName) ({ cls := "com/example/binlease/binlease/model/Job", name := "size", desc := "(I)J" } : Jvm.MethodName)).before a0 Z = true := hw _ (List.mem_of_getElem? (i := 92) rfl)
theorem opd__I_J : parseMethodDescriptor "(I)J" = some ⟨[.int], some .long⟩ := by decide +kernel
theorem ow_90 {Z : State} {a0 : Array Value} (hw : ∀ d ∈ tables_1, d.before a0 Z = true) : (Jvm.Cond.declares ({ cls := "com/example/binlease/binlease/model/Job", name := "size", desc := "(I)J" } : Jvm.MethodName)).before a0 Z = true := hw _ (List.mem_of_getElem? (i := 90) rfl)
theorem ow_91 {Z : State} {a0 : Array Value} (hw : ∀ d ∈ tables_1, d.before a0 Z = true) : (Jvm.Cond.instanceMethod ({ cls := "com/example/binlease/binlease/model/Job", name := "size", desc := "(I)J" } : Jvm.MethodName)).before a0 Z = true := hw _ (List.mem_of_getElem? (i := 91) rfl)
theorem ow_93 {Z : State} {a0 : Array Value} (hw : ∀ d ∈ tables_1, d.before a0 Z = true) : (Jvm.Cond.code ({ cls := "com/example/binlease/binlease/model/Job", name := "size", desc := "(I)J" } : Jvm.MethodName) prog_24_method_11_code (2 : Nat) (Option.some Jvm.ClassFile.FieldType.long)).before a0 Z = true := hw _ (List.mem_of_getElem? (i := 93) rfl)
theorem od_prog_25_method_10_16 : decode prog_25_method_10_code 16 = .ok (.aload_n 0, 1) := by decide +kernel
theorem od_prog_25_method_10_17 : decode prog_25_method_10_code 17 = .ok (.iload_n 2, 1) := by decide +kernel
theorem od_prog_25_method_10_18 : decode prog_25_method_10_code 18 = .ok (.invokevirtual 45, 3) := by decide +kernel
theorem ow_94 {Z : State} {a0 : Array Value} (hw : ∀ d ∈ tables_1, d.before a0 Z = true) : (Jvm.Cond.methodLink "com/example/binlease/binlease/model/Server" (45 : Nat) ({ cls := "com/example/binlease/binlease/model/Server", name := "room", desc := "(I)J" } : Jvm.MethodName)).before a0 Z = true := hw _ (List.mem_of_getElem? (i := 94) rfl)
theorem ow_97 {Z : State} {a0 : Array Value} (hw : ∀ d ∈ tables_1, d.before a0 Z = true) : (Jvm.Cond.selects "com/example/binlease/binlease/model/Server" ({ cls := "com/example/binlease/binlease/model/Server", name := "room", desc := "(I)J" } : Jvm.MethodName) ({ cls := "com/example/binlease/binlease/model/Server", name := "room", desc := "(I)J" } : Jvm.MethodName)).before a0 Z = true := hw _ (List.mem_of_getElem? (i := 97) rfl)
theorem ow_95 {Z : State} {a0 : Array Value} (hw : ∀ d ∈ tables_1, d.before a0 Z = true) : (Jvm.Cond.declares ({ cls := "com/example/binlease/binlease/model/Server", name := "room", desc := "(I)J" } : Jvm.MethodName)).before a0 Z = true := hw _ (List.mem_of_getElem? (i := 95) rfl)
theorem ow_96 {Z : State} {a0 : Array Value} (hw : ∀ d ∈ tables_1, d.before a0 Z = true) : (Jvm.Cond.instanceMethod ({ cls := "com/example/binlease/binlease/model/Server", name := "room", desc := "(I)J" } : Jvm.MethodName)).before a0 Z = true := hw _ (List.mem_of_getElem? (i := 96) rfl)
theorem ow_3 {Z : State} {a0 : Array Value} (hw : ∀ d ∈ tables_1, d.before a0 Z = true) : (Jvm.Cond.initialized "com/example/binlease/binlease/model/Server").before a0 Z = true := hw _ (List.mem_of_getElem? (i := 3) rfl)
theorem ow_98 {Z : State} {a0 : Array Value} (hw : ∀ d ∈ tables_1, d.before a0 Z = true) : (Jvm.Cond.code ({ cls := "com/example/binlease/binlease/model/Server", name := "room", desc := "(I)J" } : Jvm.MethodName) prog_25_method_9_code (2 : Nat) (Option.some Jvm.ClassFile.FieldType.long)).before a0 Z = true := hw _ (List.mem_of_getElem? (i := 98) rfl)
theorem od_prog_25_method_10_21 : decode prog_25_method_10_code 21 = .ok (.lcmp, 1) := by decide +kernel
theorem od_prog_25_method_10_22 : decode prog_25_method_10_code 22 = .ok (.ifCond .le 5, 3) := by decide +kernel
theorem od_prog_25_method_10_25 : decode prog_25_method_10_code 25 = .ok (.iconst 0, 1) := by decide +kernel
theorem od_prog_25_method_10_26 : decode prog_25_method_10_code 26 = .ok (.ireturn, 1) := by decide +kernel
theorem od_prog_25_method_10_27 : decode prog_25_method_10_code 27 = .ok (.iinc 2 1, 3) := by decide +kernel
theorem od_prog_25_method_10_30 : decode prog_25_method_10_code 30 = .ok (.goto (-28), 3) := by decide +kernel
theorem od_prog_25_method_10_33 : decode prog_25_method_10_code 33 = .ok (.iconst 1, 1) := by decide +kernel
theorem od_prog_25_method_10_34 : decode prog_25_method_10_code 34 = .ok (.ireturn, 1) := by decide +kernel
theorem oef_rm_hrf (m : MethodId) (ra : Addr) (rj : Addr) : entryFrame m #[(.ref ra), (.ref rj)] 3 = mkF m 0 #[.val (.ref ra), .val (.ref rj), .unset] [] := by first | (simp [entryFrame, mkF, argsToLocals, Value.category]; done) | rfl
set_option maxRecDepth 65536 in
set_option maxHeartbeats 40000000 in
theorem rm_hrf (l : Launch) (Z : State) (a0 : Array Value) (hw : ∀ d ∈ tables_1, d.before a0 Z = true) (ra : Addr) (rj : Addr) (rc : Addr) (rd : Addr) (re : Addr) (x0 : Int64) (y0 : Int64) (z0 : Int64) (h0 : Heap) (n0 : Nat) (Z0 : n0 ≤ h0.size) (P0 : Exa Z h0 ra "com/example/binlease/binlease/model/Server") (P1 : Exa Z h0 rj "com/example/binlease/binlease/model/Job") (P2 : Fld Z h0 ra "com/example/binlease/binlease/model/Server" "capacity" "[J" (.ref rc)) (P3 : Fld Z h0 ra "com/example/binlease/binlease/model/Server" "load" "[J" (.ref rd)) (P4 : Fld Z h0 rj "com/example/binlease/binlease/model/Job" "sizes" "[J" (.ref re)) (P5 : own_AJ Z h0 rc .long (1 : Int32) (own_LJ [x0])) (P6 : own_AJ Z h0 rd .long (1 : Int32) (own_LJ [y0])) (P7 : own_AJ Z h0 re .long (1 : Int32) (own_LJ [z0])) :
    own_M l Z (⟨"com/example/binlease/binlease/model/Server", "hasRoomFor", "(Lcom/example/binlease/binlease/model/Job;)Z"⟩ : MethodName) prog_25_method_10_code 3 (some .boolean) [] ({ frames := 1, cells := 0, slots := 0, locals := 15 } : Room) #[(.ref ra), (.ref rj)] h0 (fun v h L => v = some (.int (if (x0 - y0) < z0 then (0 : Int32) else (1 : Int32))) ∧ Fr n0 L ∧ (h = h0)) 0 0 := by
  refine own_body (plainFor_of_name opn_com_example_binlease_binlease_model_Server) ?_
  intro p e s m below meth c s1 hx hby hml hown hnm hret hlk hZ X0 e0
  rw [oef_rm_hrf m ra rj]
  have N0 := Fr.nil n0
  refine own_iconst X0 hx (hb hby od_prog_25_method_10_0) (z := (0 : Int32)) rfl (pc' := 1) rfl ?_
  refine own_istoreN X0 hx (hb hby od_prog_25_method_10_1) (l' := #[.val (.ref ra), .val (.ref rj), .val (.int (0 : Int32))]) rfl (pc' := 2) rfl ?_
  refine own_iloadN X0 hx (hb hby od_prog_25_method_10_2) rfl (pc' := 3) rfl ?_
  refine own_aloadN X0 hx (hb hby od_prog_25_method_10_3) rfl rfl (pc' := 4) rfl ?_
  refine own_getF X0 hx hZ hown (ow_26 hw) e0 P3 (hb hby od_prog_25_method_10_4) (pc' := 7) rfl ?_
  intro T1 X1 e1
  refine own_lenJ X1 hx hZ e1 P6 (hb hby od_prog_25_method_10_7) (pc' := 8) rfl ?_
  refine own_icmpF X1 hx (hb hby od_prog_25_method_10_8) (by decide) (pc' := 11) rfl ?_
  refine own_aloadN X1 hx (hb hby od_prog_25_method_10_11) rfl rfl (pc' := 12) rfl ?_
  refine own_iloadN X1 hx (hb hby od_prog_25_method_10_12) rfl (pc' := 13) rfl ?_
  refine own_callV X1 hx hZ hown (ow_89 hw) (ow_90 hw) (ow_92 hw) (ow_91 hw) (ow_32 hw) (ow_93 hw) (by decide) P1 (rm_size0 l Z a0 hw rj re z0 h0 n0 Z0 P4 P7) e1 (W := 0) (by decide) (by decide) opd__I_J rfl (rest := []) rfl (hb hby od_prog_25_method_10_13) (Nat.le_of_eq rfl) (by rw [hml]; rfl) (by decide) (by decide) (pc' := 16) rfl ?_
  intro v2 T2 L2 X2 q2
  obtain ⟨rfl, Nq2, eh2⟩ := q2
  have N2 := Fr.app N0 Nq2
  show own_G p e below _ (T2.setTop (mkF m 16 #[.val (.ref ra), .val (.ref rj), .val (.int (0 : Int32))] [(.long z0)]))
  refine own_aloadN X2 hx (hb hby od_prog_25_method_10_16) rfl rfl (pc' := 17) rfl ?_
  refine own_iloadN X2 hx (hb hby od_prog_25_method_10_17) rfl (pc' := 18) rfl ?_
  refine own_callV X2 hx hZ hown (ow_94 hw) (ow_95 hw) (ow_97 hw) (ow_96 hw) (ow_3 hw) (ow_98 hw) (by decide) P0 (rm_room0 l Z a0 hw ra rc rd x0 y0 h0 n0 Z0 P2 P3 P5 P6) eh2 (W := 2) (by decide) (by decide) opd__I_J rfl (rest := [(.long z0)]) rfl (hb hby od_prog_25_method_10_18) (Nat.le_of_eq rfl) (by rw [hml]; rfl) (by decide) (by decide) (pc' := 21) rfl ?_
  intro v3 T3 L3 X3 q3
  obtain ⟨rfl, Nq3, eh3⟩ := q3
  have N3 := Fr.app N2 Nq3
  show own_G p e below _ (T3.setTop (mkF m 21 #[.val (.ref ra), .val (.ref rj), .val (.int (0 : Int32))] [(.long (x0 - y0)), (.long z0)]))
  refine own_lcmp X3 hx (hb hby od_prog_25_method_10_21) (pc' := 22) rfl ?_
  by_cases c4 : (x0 - y0) < z0
  · refine own_ifF X3 hx (hb hby od_prog_25_method_10_22) (own_ltL c4).2.2.2 (pc' := 25) rfl ?_
    refine own_iconst X3 hx (hb hby od_prog_25_method_10_25) (z := (0 : Int32)) rfl (pc' := 26) rfl ?_
    exact own_retZ X3 hx hret hlk (Or.inl rfl) (hb hby od_prog_25_method_10_26) ⟨(by simp only [if_pos c4]), N3, eh3⟩ (by decide) (by decide)
  · refine own_ifT X3 hx (hb hby od_prog_25_method_10_22) (own_geL c4).2.2.2 (by decide) (pc' := 27) rfl ?_
    refine own_iinc X3 hx (hb hby od_prog_25_method_10_27) rfl (z := (1 : Int32)) rfl (l' := #[.val (.ref ra), .val (.ref rj), .val (.int (1 : Int32))]) rfl (pc' := 30) rfl ?_
    refine own_goto X3 hx (hb hby od_prog_25_method_10_30) (by decide) (pc' := 2) rfl ?_
    refine own_iloadN X3 hx (hb hby od_prog_25_method_10_2) rfl (pc' := 3) rfl ?_
    refine own_aloadN X3 hx (hb hby od_prog_25_method_10_3) rfl rfl (pc' := 4) rfl ?_
    refine own_getF X3 hx hZ hown (ow_26 hw) eh3 P3 (hb hby od_prog_25_method_10_4) (pc' := 7) rfl ?_
    intro T5 X5 e5
    refine own_lenJ X5 hx hZ e5 P6 (hb hby od_prog_25_method_10_7) (pc' := 8) rfl ?_
    refine own_icmpT X5 hx (hb hby od_prog_25_method_10_8) (by decide) (by decide) (pc' := 33) rfl ?_
    refine own_iconst X5 hx (hb hby od_prog_25_method_10_33) (z := (1 : Int32)) rfl (pc' := 34) rfl ?_
    exact own_retZ X5 hx hret hlk (Or.inr rfl) (hb hby od_prog_25_method_10_34) ⟨(by simp only [if_neg c4]), N3, e5⟩ (by decide) (by decide)
theorem od_prog_35_method_1_0 : decode prog_35_method_1_code 0 = .ok (.aload_n 0, 1) := by decide +kernel
theorem od_prog_35_method_1_1 : decode prog_35_method_1_code 1 = .ok (.invokespecial 1, 3) := by decide +kernel
theorem ow_66 {Z : State} {a0 : Array Value} (hw : ∀ d ∈ tables_1, d.before a0 Z = true) : (Jvm.Cond.methodLink "com/example/binlease/binlease/policy/NextFit" (1 : Nat) ({ cls := "java/lang/Object", name := "<init>", desc := "()V" } : Jvm.MethodName)).before a0 Z = true := hw _ (List.mem_of_getElem? (i := 66) rfl)
theorem od_prog_35_method_1_4 : decode prog_35_method_1_code 4 = .ok (.return_, 1) := by decide +kernel
theorem opn_com_example_binlease_binlease_policy_NextFit : plainName "com/example/binlease/binlease/policy/NextFit" = true := by first | (simp [plainName, overriddenIn]; done) | decide +kernel
theorem oef_rm_nfi (m : MethodId) (ra : Addr) : entryFrame m #[(.ref ra)] 1 = mkF m 0 #[.val (.ref ra)] [] := by first | (simp [entryFrame, mkF, argsToLocals, Value.category]; done) | rfl
set_option maxRecDepth 65536 in
set_option maxHeartbeats 40000000 in
theorem rm_nfi (l : Launch) (Z : State) (a0 : Array Value) (hw : ∀ d ∈ tables_1, d.before a0 Z = true) (ra : Addr) (h0 : Heap) (n0 : Nat) (Z0 : n0 ≤ h0.size)  :
    own_M l Z (⟨"com/example/binlease/binlease/policy/NextFit", "<init>", "()V"⟩ : MethodName) prog_35_method_1_code 1 none [] ({ frames := 1, cells := 0, slots := 0, locals := 12 } : Room) #[(.ref ra)] h0 (fun v h L => v = none ∧ Fr n0 L ∧ (h = h0)) 0 0 := by
  refine own_body (plainFor_of_name opn_com_example_binlease_binlease_policy_NextFit) ?_
  intro p e s m below meth c s1 hx hby hml hown hnm hret hlk hZ X0 e0
  rw [oef_rm_nfi m ra]
  have N0 := Fr.nil n0
  refine own_aloadN X0 hx (hb hby od_prog_35_method_1_0) rfl rfl (pc' := 1) rfl ?_
  refine own_initO X0 hx hZ hown (ow_66 hw) (ow_9 hw) (ow_10 hw) e0 (by rw [hml]; rfl) (hb hby od_prog_35_method_1_1) (by decide) (W := 0) (Nat.le_of_eq rfl) (by decide) (pc' := 4) rfl ?_
  intro T1 X1 e1
  exact own_retV X1 hx hret hlk (hb hby od_prog_35_method_1_4) ⟨rfl, N0, e1⟩ (by decide) (by decide)
theorem od_prog_35_method_4_0 : decode prog_35_method_4_code 0 = .ok (.aload_n 0, 1) := by decide +kernel
theorem od_prog_35_method_4_1 : decode prog_35_method_4_code 1 = .ok (.aload_n 1, 1) := by decide +kernel
theorem od_prog_35_method_4_2 : decode prog_35_method_4_code 2 = .ok (.putfield 11, 3) := by decide +kernel
theorem ow_72 {Z : State} {a0 : Array Value} (hw : ∀ d ∈ tables_1, d.before a0 Z = true) : (Jvm.Cond.fieldLink "com/example/binlease/binlease/policy/NextFit" (11 : Nat) "com/example/binlease/binlease/policy/NextFit" "receiving" "Lcom/example/binlease/binlease/model/Server;").before a0 Z = true := hw _ (List.mem_of_getElem? (i := 72) rfl)
theorem ow_73 {Z : State} {a0 : Array Value} (hw : ∀ d ∈ tables_1, d.before a0 Z = true) : (Jvm.Cond.lays "com/example/binlease/binlease/policy/NextFit" "com/example/binlease/binlease/policy/NextFit" "receiving" "Lcom/example/binlease/binlease/model/Server;").before a0 Z = true := hw _ (List.mem_of_getElem? (i := 73) rfl)
theorem ow_61 {Z : State} {a0 : Array Value} (hw : ∀ d ∈ tables_1, d.before a0 Z = true) : (Jvm.Cond.instantiable "com/example/binlease/binlease/policy/NextFit" (1 : Nat)).before a0 Z = true := hw _ (List.mem_of_getElem? (i := 61) rfl)
theorem od_prog_35_method_4_5 : decode prog_35_method_4_code 5 = .ok (.return_, 1) := by decide +kernel
theorem oef_rm_op (m : MethodId) (ra : Addr) (rp : Addr) : entryFrame m #[(.ref ra), (.ref rp)] 2 = mkF m 0 #[.val (.ref ra), .val (.ref rp)] [] := by first | (simp [entryFrame, mkF, argsToLocals, Value.category]; done) | rfl
set_option maxRecDepth 65536 in
set_option maxHeartbeats 40000000 in
theorem rm_op (l : Launch) (Z : State) (a0 : Array Value) (hw : ∀ d ∈ tables_1, d.before a0 Z = true) (ra : Addr) (rp : Addr) (w0 : Value) (h0 : Heap) (n0 : Nat) (Z0 : n0 ≤ h0.size) (P0 : Exa Z h0 ra "com/example/binlease/binlease/policy/NextFit") (P1 : Fld Z h0 ra "com/example/binlease/binlease/policy/NextFit" "receiving" "Lcom/example/binlease/binlease/model/Server;" (w0)) (g_ra : n0 ≤ ra) :
    own_M l Z (⟨"com/example/binlease/binlease/policy/NextFit", "opened", "(Lcom/example/binlease/binlease/model/Server;)V"⟩ : MethodName) prog_35_method_4_code 2 none [] ({ frames := 0, cells := 0, slots := 0, locals := 0 } : Room) #[(.ref ra), (.ref rp)] h0 (fun v h L => v = none ∧ Fr n0 L ∧ (Keep h0 h [ra]) ∧ (Fld Z h ra "com/example/binlease/binlease/policy/NextFit" "receiving" "Lcom/example/binlease/binlease/model/Server;" (.ref rp))) 0 0 := by
  refine own_body (plainFor_of_name opn_com_example_binlease_binlease_policy_NextFit) ?_
  intro p e s m below meth c s1 hx hby hml hown hnm hret hlk hZ X0 e0
  rw [oef_rm_op m ra rp]
  have N0 := Fr.nil n0
  refine own_aloadN X0 hx (hb hby od_prog_35_method_4_0) rfl rfl (pc' := 1) rfl ?_
  refine own_aloadN X0 hx (hb hby od_prog_35_method_4_1) rfl rfl (pc' := 2) rfl ?_
  refine own_putF X0 hx hZ hown (ow_72 hw) e0 P1 P0 (Or.inl (ow_73 hw)) (ow_61 hw) (ty := (.object "com/example/binlease/binlease/model/Server")) (by decide) rfl rfl (hb hby od_prog_35_method_4_2) (pc' := 5) rfl ?_
  intro T1 h1 X1 e1 W1
  have N1 := Fr.snoc X1 N0 g_ra
  have k3 : Keep h0 h1 [ra] := (Keep.wr (Keep.refl _ _) W1 (Or.inl (List.mem_of_getElem? (i := 0) rfl)))
  exact own_retV X1 hx hret hlk (hb hby od_prog_35_method_4_5) ⟨rfl, N1, (by rw [e1]; exact k3), (by rw [e1]; exact (P1.same W1))⟩ (by decide) (by decide)
theorem od_prog_35_method_5_0 : decode prog_35_method_5_code 0 = .ok (.aload_n 1, 1) := by decide +kernel
theorem od_prog_35_method_5_1 : decode prog_35_method_5_code 1 = .ok (.aload_n 0, 1) := by decide +kernel
theorem od_prog_35_method_5_2 : decode prog_35_method_5_code 2 = .ok (.getfield 11, 3) := by decide +kernel
theorem od_prog_35_method_5_5 : decode prog_35_method_5_code 5 = .ok (.if_acmp .ne 8, 3) := by decide +kernel
theorem od_prog_35_method_5_13 : decode prog_35_method_5_code 13 = .ok (.return_, 1) := by decide +kernel
theorem oef_rm_cl0 (m : MethodId) (ra : Addr) (rp : Addr) : entryFrame m #[(.ref ra), (.ref rp)] 2 = mkF m 0 #[.val (.ref ra), .val (.ref rp)] [] := by first | (simp [entryFrame, mkF, argsToLocals, Value.category]; done) | rfl
set_option maxRecDepth 65536 in
set_option maxHeartbeats 40000000 in
theorem rm_cl0 (l : Launch) (Z : State) (a0 : Array Value) (hw : ∀ d ∈ tables_1, d.before a0 Z = true) (ra : Addr) (rp : Addr) (h0 : Heap) (n0 : Nat) (Z0 : n0 ≤ h0.size) (P0 : Fld Z h0 ra "com/example/binlease/binlease/policy/NextFit" "receiving" "Lcom/example/binlease/binlease/model/Server;" (.null)) :
    own_M l Z (⟨"com/example/binlease/binlease/policy/NextFit", "closed", "(Lcom/example/binlease/binlease/model/Server;)V"⟩ : MethodName) prog_35_method_5_code 2 none [] ({ frames := 0, cells := 0, slots := 0, locals := 0 } : Room) #[(.ref ra), (.ref rp)] h0 (fun v h L => v = none ∧ Fr n0 L ∧ (h = h0)) 0 0 := by
  refine own_body (plainFor_of_name opn_com_example_binlease_binlease_policy_NextFit) ?_
  intro p e s m below meth c s1 hx hby hml hown hnm hret hlk hZ X0 e0
  rw [oef_rm_cl0 m ra rp]
  have N0 := Fr.nil n0
  refine own_aloadN X0 hx (hb hby od_prog_35_method_5_0) rfl rfl (pc' := 1) rfl ?_
  refine own_aloadN X0 hx (hb hby od_prog_35_method_5_1) rfl rfl (pc' := 2) rfl ?_
  refine own_getF X0 hx hZ hown (ow_72 hw) e0 P0 (hb hby od_prog_35_method_5_2) (pc' := 5) rfl ?_
  intro T1 X1 e1
  refine own_acmpT X1 hx (hb hby od_prog_35_method_5_5) rfl rfl (by simp [XT.acmp]) (by decide) (pc' := 13) rfl ?_
  exact own_retV X1 hx hret hlk (hb hby od_prog_35_method_5_13) ⟨rfl, N0, e1⟩ (by decide) (by decide)
theorem od_prog_35_method_5_8 : decode prog_35_method_5_code 8 = .ok (.aload_n 0, 1) := by decide +kernel
theorem od_prog_35_method_5_9 : decode prog_35_method_5_code 9 = .ok (.aconst_null, 1) := by decide +kernel
theorem od_prog_35_method_5_10 : decode prog_35_method_5_code 10 = .ok (.putfield 11, 3) := by decide +kernel
theorem oef_rm_cl1 (m : MethodId) (ra : Addr) (rp : Addr) : entryFrame m #[(.ref ra), (.ref rp)] 2 = mkF m 0 #[.val (.ref ra), .val (.ref rp)] [] := by first | (simp [entryFrame, mkF, argsToLocals, Value.category]; done) | rfl
set_option maxRecDepth 65536 in
set_option maxHeartbeats 40000000 in
theorem rm_cl1 (l : Launch) (Z : State) (a0 : Array Value) (hw : ∀ d ∈ tables_1, d.before a0 Z = true) (ra : Addr) (rp : Addr) (h0 : Heap) (n0 : Nat) (Z0 : n0 ≤ h0.size) (P0 : Exa Z h0 ra "com/example/binlease/binlease/policy/NextFit") (P1 : Fld Z h0 ra "com/example/binlease/binlease/policy/NextFit" "receiving" "Lcom/example/binlease/binlease/model/Server;" (.ref rp)) (g_ra : n0 ≤ ra) :
    own_M l Z (⟨"com/example/binlease/binlease/policy/NextFit", "closed", "(Lcom/example/binlease/binlease/model/Server;)V"⟩ : MethodName) prog_35_method_5_code 2 none [] ({ frames := 0, cells := 0, slots := 0, locals := 0 } : Room) #[(.ref ra), (.ref rp)] h0 (fun v h L => v = none ∧ Fr n0 L ∧ (Keep h0 h [ra]) ∧ (Fld Z h ra "com/example/binlease/binlease/policy/NextFit" "receiving" "Lcom/example/binlease/binlease/model/Server;" (.null))) 0 0 := by
  refine own_body (plainFor_of_name opn_com_example_binlease_binlease_policy_NextFit) ?_
  intro p e s m below meth c s1 hx hby hml hown hnm hret hlk hZ X0 e0
  rw [oef_rm_cl1 m ra rp]
  have N0 := Fr.nil n0
  refine own_aloadN X0 hx (hb hby od_prog_35_method_5_0) rfl rfl (pc' := 1) rfl ?_
  refine own_aloadN X0 hx (hb hby od_prog_35_method_5_1) rfl rfl (pc' := 2) rfl ?_
  refine own_getF X0 hx hZ hown (ow_72 hw) e0 P1 (hb hby od_prog_35_method_5_2) (pc' := 5) rfl ?_
  intro T1 X1 e1
  refine own_acmpF X1 hx (hb hby od_prog_35_method_5_5) rfl rfl (by simp [XT.acmp]) (pc' := 8) rfl ?_
  refine own_aloadN X1 hx (hb hby od_prog_35_method_5_8) rfl rfl (pc' := 9) rfl ?_
  refine own_aconstNull X1 hx (hb hby od_prog_35_method_5_9) (pc' := 10) rfl ?_
  refine own_putF X1 hx hZ hown (ow_72 hw) e1 P1 P0 (Or.inl (ow_73 hw)) (ow_61 hw) (ty := (.object "com/example/binlease/binlease/model/Server")) (by decide) rfl rfl (hb hby od_prog_35_method_5_10) (pc' := 13) rfl ?_
  intro T2 h2 X2 e2 W2
  have N2 := Fr.snoc X2 N0 g_ra
  have k4 : Keep h0 h2 [ra] := (Keep.wr (Keep.refl _ _) W2 (Or.inl (List.mem_of_getElem? (i := 0) rfl)))
  exact own_retV X2 hx hret hlk (hb hby od_prog_35_method_5_13) ⟨rfl, N2, (by rw [e2]; exact k4), (by rw [e2]; exact (P1.same W2))⟩ (by decide) (by decide)
theorem oef_rm_cl2 (m : MethodId) (ra : Addr) (rp : Addr) : entryFrame m #[(.ref ra), (.ref rp)] 2 = mkF m 0 #[.val (.ref ra), .val (.ref rp)] [] := by first | (simp [entryFrame, mkF, argsToLocals, Value.category]; done) | rfl
set_option maxRecDepth 65536 in
set_option maxHeartbeats 40000000 in
theorem rm_cl2 (l : Launch) (Z : State) (a0 : Array Value) (hw : ∀ d ∈ tables_1, d.before a0 Z = true) (ra : Addr) (rp : Addr) (rq : Addr) (h0 : Heap) (n0 : Nat) (Z0 : n0 ≤ h0.size) (P0 : Fld Z h0 ra "com/example/binlease/binlease/policy/NextFit" "receiving" "Lcom/example/binlease/binlease/model/Server;" (.ref rq)) (ne_rp_rq : rp ≠ rq) :
    own_M l Z (⟨"com/example/binlease/binlease/policy/NextFit", "closed", "(Lcom/example/binlease/binlease/model/Server;)V"⟩ : MethodName) prog_35_method_5_code 2 none [] ({ frames := 0, cells := 0, slots := 0, locals := 0 } : Room) #[(.ref ra), (.ref rp)] h0 (fun v h L => v = none ∧ Fr n0 L ∧ (h = h0)) 0 0 := by
  refine own_body (plainFor_of_name opn_com_example_binlease_binlease_policy_NextFit) ?_
  intro p e s m below meth c s1 hx hby hml hown hnm hret hlk hZ X0 e0
  rw [oef_rm_cl2 m ra rp]
  have N0 := Fr.nil n0
  refine own_aloadN X0 hx (hb hby od_prog_35_method_5_0) rfl rfl (pc' := 1) rfl ?_
  refine own_aloadN X0 hx (hb hby od_prog_35_method_5_1) rfl rfl (pc' := 2) rfl ?_
  refine own_getF X0 hx hZ hown (ow_72 hw) e0 P0 (hb hby od_prog_35_method_5_2) (pc' := 5) rfl ?_
  intro T1 X1 e1
  refine own_acmpT X1 hx (hb hby od_prog_35_method_5_5) rfl rfl (by have q := ne_rp_rq; simp [XT.acmp, q]) (by decide) (pc' := 13) rfl ?_
  exact own_retV X1 hx hret hlk (hb hby od_prog_35_method_5_13) ⟨rfl, N0, e1⟩ (by decide) (by decide)
theorem od_prog_35_method_3_0 : decode prog_35_method_3_code 0 = .ok (.aload_n 0, 1) := by decide +kernel
theorem od_prog_35_method_3_1 : decode prog_35_method_3_code 1 = .ok (.getfield 11, 3) := by decide +kernel
theorem od_prog_35_method_3_4 : decode prog_35_method_3_code 4 = .ok (.ifnull 21, 3) := by decide +kernel
theorem od_prog_35_method_3_25 : decode prog_35_method_3_code 25 = .ok (.aconst_null, 1) := by decide +kernel
theorem od_prog_35_method_3_26 : decode prog_35_method_3_code 26 = .ok (.areturn, 1) := by decide +kernel
theorem oef_rm_ch0 (m : MethodId) (ra : Addr) (rj : Addr) : entryFrame m #[(.ref ra), (.ref rj)] 2 = mkF m 0 #[.val (.ref ra), .val (.ref rj)] [] := by first | (simp [entryFrame, mkF, argsToLocals, Value.category]; done) | rfl
set_option maxRecDepth 65536 in
set_option maxHeartbeats 40000000 in
theorem rm_ch0 (l : Launch) (Z : State) (a0 : Array Value) (hw : ∀ d ∈ tables_1, d.before a0 Z = true) (ra : Addr) (rj : Addr) (h0 : Heap) (n0 : Nat) (Z0 : n0 ≤ h0.size) (P0 : Fld Z h0 ra "com/example/binlease/binlease/policy/NextFit" "receiving" "Lcom/example/binlease/binlease/model/Server;" (.null)) :
    own_M l Z (⟨"com/example/binlease/binlease/policy/NextFit", "choose", "(Lcom/example/binlease/binlease/model/Job;)Lcom/example/binlease/binlease/model/Server;"⟩ : MethodName) prog_35_method_3_code 2 (some (.object "com/example/binlease/binlease/model/Server")) [] ({ frames := 0, cells := 0, slots := 0, locals := 0 } : Room) #[(.ref ra), (.ref rj)] h0 (fun v h L => v = some (.null) ∧ Fr n0 L ∧ (h = h0)) 0 0 := by
  refine own_body (plainFor_of_name opn_com_example_binlease_binlease_policy_NextFit) ?_
  intro p e s m below meth c s1 hx hby hml hown hnm hret hlk hZ X0 e0
  rw [oef_rm_ch0 m ra rj]
  have N0 := Fr.nil n0
  refine own_aloadN X0 hx (hb hby od_prog_35_method_3_0) rfl rfl (pc' := 1) rfl ?_
  refine own_getF X0 hx hZ hown (ow_72 hw) e0 P0 (hb hby od_prog_35_method_3_1) (pc' := 4) rfl ?_
  intro T1 X1 e1
  refine own_ifnullT X1 hx (hb hby od_prog_35_method_3_4) (by decide) (pc' := 25) rfl ?_
  refine own_aconstNull X1 hx (hb hby od_prog_35_method_3_25) (pc' := 26) rfl ?_
  exact own_retA X1 hx hret hlk rfl rfl rfl (hb hby od_prog_35_method_3_26) ⟨rfl, N0, e1⟩ (by decide) (by decide)
theorem od_prog_35_method_3_7 : decode prog_35_method_3_code 7 = .ok (.aload_n 0, 1) := by decide +kernel
theorem od_prog_35_method_3_8 : decode prog_35_method_3_code 8 = .ok (.getfield 11, 3) := by decide +kernel
theorem od_prog_35_method_3_11 : decode prog_35_method_3_code 11 = .ok (.aload_n 1, 1) := by decide +kernel
theorem od_prog_35_method_3_12 : decode prog_35_method_3_code 12 = .ok (.invokevirtual 17, 3) := by decide +kernel
theorem ow_84 {Z : State} {a0 : Array Value} (hw : ∀ d ∈ tables_1, d.before a0 Z = true) : (Jvm.Cond.methodLink "com/example/binlease/binlease/policy/NextFit" (17 : Nat) ({ cls := "com/example/binlease/binlease/model/Server", name := "hasRoomFor", desc := "(Lcom/example/binlease/binlease/model/Job;)Z" } : Jvm.MethodName)).before a0 Z = true := hw _ (List.mem_of_getElem? (i := 84) rfl)
theorem ow_87 {Z : State} {a0 : Array Value} (hw : ∀ d ∈ tables_1, d.before a0 Z = true) : (Jvm.Cond.selects "com/example/binlease/binlease/model/Server" ({ cls := "com/example/binlease/binlease/model/Server", name := "hasRoomFor", desc := "(Lcom/example/binlease/binlease/model/Job;)Z" } : Jvm.MethodName) ({ cls := "com/example/binlease/binlease/model/Server", name := "hasRoomFor", desc := "(Lcom/example/binlease/binlease/model/Job;)Z" } : Jvm.MethodName)).before a0 Z = true := hw _ (List.mem_of_getElem? (i := 87) rfl)
theorem opd__Lcom_example_binlease_binlease_model_Job__Z : parseMethodDescriptor "(Lcom/example/binlease/binlease/model/Job;)Z" = some ⟨[(.object "com/example/binlease/binlease/model/Job")], some .boolean⟩ := by decide +kernel
theorem ow_85 {Z : State} {a0 : Array Value} (hw : ∀ d ∈ tables_1, d.before a0 Z = true) : (Jvm.Cond.declares ({ cls := "com/example/binlease/binlease/model/Server", name := "hasRoomFor", desc := "(Lcom/example/binlease/binlease/model/Job;)Z" } : Jvm.MethodName)).before a0 Z = true := hw _ (List.mem_of_getElem? (i := 85) rfl)
theorem ow_86 {Z : State} {a0 : Array Value} (hw : ∀ d ∈ tables_1, d.before a0 Z = true) : (Jvm.Cond.instanceMethod ({ cls := "com/example/binlease/binlease/model/Server", name := "hasRoomFor", desc := "(Lcom/example/binlease/binlease/model/Job;)Z" } : Jvm.MethodName)).before a0 Z = true := hw _ (List.mem_of_getElem? (i := 86) rfl)
theorem ow_88 {Z : State} {a0 : Array Value} (hw : ∀ d ∈ tables_1, d.before a0 Z = true) : (Jvm.Cond.code ({ cls := "com/example/binlease/binlease/model/Server", name := "hasRoomFor", desc := "(Lcom/example/binlease/binlease/model/Job;)Z" } : Jvm.MethodName) prog_25_method_10_code (3 : Nat) (Option.some Jvm.ClassFile.FieldType.boolean)).before a0 Z = true := hw _ (List.mem_of_getElem? (i := 88) rfl)
theorem od_prog_35_method_3_15 : decode prog_35_method_3_code 15 = .ok (.ifCond .eq 10, 3) := by decide +kernel
theorem oef_rm_chN (m : MethodId) (ra : Addr) (rj : Addr) : entryFrame m #[(.ref ra), (.ref rj)] 2 = mkF m 0 #[.val (.ref ra), .val (.ref rj)] [] := by first | (simp [entryFrame, mkF, argsToLocals, Value.category]; done) | rfl
set_option maxRecDepth 65536 in
set_option maxHeartbeats 40000000 in
theorem rm_chN (l : Launch) (Z : State) (a0 : Array Value) (hw : ∀ d ∈ tables_1, d.before a0 Z = true) (ra : Addr) (rj : Addr) (rs : Addr) (rc : Addr) (rd : Addr) (re : Addr) (x0 : Int64) (y0 : Int64) (z0 : Int64) (h0 : Heap) (n0 : Nat) (Z0 : n0 ≤ h0.size) (P0 : Fld Z h0 ra "com/example/binlease/binlease/policy/NextFit" "receiving" "Lcom/example/binlease/binlease/model/Server;" (.ref rs)) (P1 : Exa Z h0 rs "com/example/binlease/binlease/model/Server") (P2 : Exa Z h0 rj "com/example/binlease/binlease/model/Job") (P3 : Fld Z h0 rs "com/example/binlease/binlease/model/Server" "capacity" "[J" (.ref rc)) (P4 : Fld Z h0 rs "com/example/binlease/binlease/model/Server" "load" "[J" (.ref rd)) (P5 : Fld Z h0 rj "com/example/binlease/binlease/model/Job" "sizes" "[J" (.ref re)) (P6 : own_AJ Z h0 rc .long (1 : Int32) (own_LJ [x0])) (P7 : own_AJ Z h0 rd .long (1 : Int32) (own_LJ [y0])) (P8 : own_AJ Z h0 re .long (1 : Int32) (own_LJ [z0])) (hP : (x0 - y0) < z0) :
    own_M l Z (⟨"com/example/binlease/binlease/policy/NextFit", "choose", "(Lcom/example/binlease/binlease/model/Job;)Lcom/example/binlease/binlease/model/Server;"⟩ : MethodName) prog_35_method_3_code 2 (some (.object "com/example/binlease/binlease/model/Server")) [] ({ frames := 2, cells := 0, slots := 0, locals := 29 } : Room) #[(.ref ra), (.ref rj)] h0 (fun v h L => v = some (.null) ∧ Fr n0 L ∧ (h = h0)) 0 0 := by
  refine own_body (plainFor_of_name opn_com_example_binlease_binlease_policy_NextFit) ?_
  intro p e s m below meth c s1 hx hby hml hown hnm hret hlk hZ X0 e0
  rw [oef_rm_chN m ra rj]
  have N0 := Fr.nil n0
  refine own_aloadN X0 hx (hb hby od_prog_35_method_3_0) rfl rfl (pc' := 1) rfl ?_
  refine own_getF X0 hx hZ hown (ow_72 hw) e0 P0 (hb hby od_prog_35_method_3_1) (pc' := 4) rfl ?_
  intro T1 X1 e1
  refine own_ifnullF X1 hx (hb hby od_prog_35_method_3_4) (pc' := 7) rfl ?_
  refine own_aloadN X1 hx (hb hby od_prog_35_method_3_7) rfl rfl (pc' := 8) rfl ?_
  refine own_getF X1 hx hZ hown (ow_72 hw) e1 P0 (hb hby od_prog_35_method_3_8) (pc' := 11) rfl ?_
  intro T2 X2 e2
  refine own_aloadN X2 hx (hb hby od_prog_35_method_3_11) rfl rfl (pc' := 12) rfl ?_
  refine own_callV X2 hx hZ hown (ow_84 hw) (ow_85 hw) (ow_87 hw) (ow_86 hw) (ow_3 hw) (ow_88 hw) (by decide) P1 (rm_hrf l Z a0 hw rs rj rc rd re x0 y0 z0 h0 n0 Z0 P1 P2 P3 P4 P5 P6 P7 P8) e2 (W := 0) (by decide) (by decide) opd__Lcom_example_binlease_binlease_model_Job__Z rfl (rest := []) rfl (hb hby od_prog_35_method_3_12) (Nat.le_of_eq rfl) (by rw [hml]; rfl) (by decide) (by decide) (pc' := 15) rfl ?_
  intro v3 T3 L3 X3 q3
  obtain ⟨rfl, Nq3, eh3⟩ := q3
  have N3 := Fr.app N0 Nq3
  show own_G p e below _ (T3.setTop (mkF m 15 #[.val (.ref ra), .val (.ref rj)] [(.int (if (x0 - y0) < z0 then (0 : Int32) else (1 : Int32)))]))
  refine own_cast (S' := T3.setTop (mkF m 15 #[.val (.ref ra), .val (.ref rj)] [(.int (0 : Int32))])) (by first | (simp only [if_pos hP]; done) | (rw [if_pos hP]; done) | (simp; done)) ?_
  refine own_ifT X3 hx (hb hby od_prog_35_method_3_15) (by decide) (by decide) (pc' := 25) rfl ?_
  refine own_aconstNull X3 hx (hb hby od_prog_35_method_3_25) (pc' := 26) rfl ?_
  exact own_retA X3 hx hret hlk rfl rfl rfl (hb hby od_prog_35_method_3_26) ⟨rfl, N3, eh3⟩ (by decide) (by decide)
theorem od_prog_35_method_3_18 : decode prog_35_method_3_code 18 = .ok (.aload_n 0, 1) := by decide +kernel
theorem od_prog_35_method_3_19 : decode prog_35_method_3_code 19 = .ok (.getfield 11, 3) := by decide +kernel
theorem od_prog_35_method_3_22 : decode prog_35_method_3_code 22 = .ok (.goto 4, 3) := by decide +kernel
theorem oef_rm_chY (m : MethodId) (ra : Addr) (rj : Addr) : entryFrame m #[(.ref ra), (.ref rj)] 2 = mkF m 0 #[.val (.ref ra), .val (.ref rj)] [] := by first | (simp [entryFrame, mkF, argsToLocals, Value.category]; done) | rfl
set_option maxRecDepth 65536 in
set_option maxHeartbeats 40000000 in
theorem rm_chY (l : Launch) (Z : State) (a0 : Array Value) (hw : ∀ d ∈ tables_1, d.before a0 Z = true) (ra : Addr) (rj : Addr) (rs : Addr) (rc : Addr) (rd : Addr) (re : Addr) (x0 : Int64) (y0 : Int64) (z0 : Int64) (h0 : Heap) (n0 : Nat) (Z0 : n0 ≤ h0.size) (P0 : Fld Z h0 ra "com/example/binlease/binlease/policy/NextFit" "receiving" "Lcom/example/binlease/binlease/model/Server;" (.ref rs)) (P1 : Exa Z h0 rs "com/example/binlease/binlease/model/Server") (P2 : Exa Z h0 rj "com/example/binlease/binlease/model/Job") (P3 : Fld Z h0 rs "com/example/binlease/binlease/model/Server" "capacity" "[J" (.ref rc)) (P4 : Fld Z h0 rs "com/example/binlease/binlease/model/Server" "load" "[J" (.ref rd)) (P5 : Fld Z h0 rj "com/example/binlease/binlease/model/Job" "sizes" "[J" (.ref re)) (P6 : own_AJ Z h0 rc .long (1 : Int32) (own_LJ [x0])) (P7 : own_AJ Z h0 rd .long (1 : Int32) (own_LJ [y0])) (P8 : own_AJ Z h0 re .long (1 : Int32) (own_LJ [z0])) (hP : ¬ ((x0 - y0) < z0)) :
    own_M l Z (⟨"com/example/binlease/binlease/policy/NextFit", "choose", "(Lcom/example/binlease/binlease/model/Job;)Lcom/example/binlease/binlease/model/Server;"⟩ : MethodName) prog_35_method_3_code 2 (some (.object "com/example/binlease/binlease/model/Server")) [] ({ frames := 2, cells := 0, slots := 0, locals := 29 } : Room) #[(.ref ra), (.ref rj)] h0 (fun v h L => v = some (.ref rs) ∧ Fr n0 L ∧ (h = h0)) 0 0 := by
  refine own_body (plainFor_of_name opn_com_example_binlease_binlease_policy_NextFit) ?_
  intro p e s m below meth c s1 hx hby hml hown hnm hret hlk hZ X0 e0
  rw [oef_rm_chY m ra rj]
  have N0 := Fr.nil n0
  refine own_aloadN X0 hx (hb hby od_prog_35_method_3_0) rfl rfl (pc' := 1) rfl ?_
  refine own_getF X0 hx hZ hown (ow_72 hw) e0 P0 (hb hby od_prog_35_method_3_1) (pc' := 4) rfl ?_
  intro T1 X1 e1
  refine own_ifnullF X1 hx (hb hby od_prog_35_method_3_4) (pc' := 7) rfl ?_
  refine own_aloadN X1 hx (hb hby od_prog_35_method_3_7) rfl rfl (pc' := 8) rfl ?_
  refine own_getF X1 hx hZ hown (ow_72 hw) e1 P0 (hb hby od_prog_35_method_3_8) (pc' := 11) rfl ?_
  intro T2 X2 e2
  refine own_aloadN X2 hx (hb hby od_prog_35_method_3_11) rfl rfl (pc' := 12) rfl ?_
  refine own_callV X2 hx hZ hown (ow_84 hw) (ow_85 hw) (ow_87 hw) (ow_86 hw) (ow_3 hw) (ow_88 hw) (by decide) P1 (rm_hrf l Z a0 hw rs rj rc rd re x0 y0 z0 h0 n0 Z0 P1 P2 P3 P4 P5 P6 P7 P8) e2 (W := 0) (by decide) (by decide) opd__Lcom_example_binlease_binlease_model_Job__Z rfl (rest := []) rfl (hb hby od_prog_35_method_3_12) (Nat.le_of_eq rfl) (by rw [hml]; rfl) (by decide) (by decide) (pc' := 15) rfl ?_
  intro v3 T3 L3 X3 q3
  obtain ⟨rfl, Nq3, eh3⟩ := q3
  have N3 := Fr.app N0 Nq3
  show own_G p e below _ (T3.setTop (mkF m 15 #[.val (.ref ra), .val (.ref rj)] [(.int (if (x0 - y0) < z0 then (0 : Int32) else (1 : Int32)))]))
  refine own_cast (S' := T3.setTop (mkF m 15 #[.val (.ref ra), .val (.ref rj)] [(.int (1 : Int32))])) (by first | (simp only [if_neg hP]; done) | (rw [if_neg hP]; done) | (simp; done)) ?_
  refine own_ifF X3 hx (hb hby od_prog_35_method_3_15) (by decide) (pc' := 18) rfl ?_
  refine own_aloadN X3 hx (hb hby od_prog_35_method_3_18) rfl rfl (pc' := 19) rfl ?_
  refine own_getF X3 hx hZ hown (ow_72 hw) eh3 P0 (hb hby od_prog_35_method_3_19) (pc' := 22) rfl ?_
  intro T4 X4 e4
  refine own_goto X4 hx (hb hby od_prog_35_method_3_22) (by decide) (pc' := 26) rfl ?_
  exact own_retA X4 hx hret hlk rfl rfl rfl (hb hby od_prog_35_method_3_26) ⟨rfl, N3, e4⟩ (by decide) (by decide)
theorem own_nn (a : Int64) : ¬ ((a &&& (9223372036854775807 : Int64)) < (0 : Int64)) := by
  have h := c_maskL a 9223372036854775807 63 (by decide) (by decide)
  simp only [Int64.lt_iff_toInt_lt, Int64.reduceToInt]
  omega
theorem own_s0 (a : Int64) : (a - (0 : Int64)) = a := by
  have h := c_lsub a 0
  have h1 := rng64 a
  have h2 := rng64 (a - 0)
  simp only [Int64.reduceToInt] at h
  rw [← Int64.toInt_inj]; omega
theorem own_0a (a : Int64) : ((0 : Int64) + a) = a := by
  have h := c_ladd 0 a
  have h1 := rng64 a
  have h2 := rng64 (0 + a)
  simp only [Int64.reduceToInt] at h
  rw [← Int64.toInt_inj]; omega
theorem own_m (a : Int32) (h0 : ¬ (a &&& (3 : Int32)) = (0 : Int32)) : True := trivial
theorem ow_0 {Z : State} {a0 : Array Value} (hw : ∀ d ∈ tables_1, d.before a0 Z = true) : (Jvm.Cond.constantLong "com/example/binlease/binlease/policy/NextFitClosedPinLaw" (9 : Nat) (9223372036854775807 : Int64)).before a0 Z = true := hw _ (List.mem_of_getElem? (i := 0) rfl)
theorem ow_1 {Z : State} {a0 : Array Value} (hw : ∀ d ∈ tables_1, d.before a0 Z = true) : (Jvm.Cond.classLink "com/example/binlease/binlease/policy/NextFitClosedPinLaw" (11 : Nat) "com/example/binlease/binlease/model/Server").before a0 Z = true := hw _ (List.mem_of_getElem? (i := 1) rfl)
theorem ow_5 {Z : State} {a0 : Array Value} (hw : ∀ d ∈ tables_1, d.before a0 Z = true) : (Jvm.Cond.methodLink "com/example/binlease/binlease/policy/NextFitClosedPinLaw" (13 : Nat) ({ cls := "com/example/binlease/binlease/model/Server", name := "<init>", desc := "(I[JJ)V" } : Jvm.MethodName)).before a0 Z = true := hw _ (List.mem_of_getElem? (i := 5) rfl)
theorem opd__I_JJ_V : parseMethodDescriptor "(I[JJ)V" = some ⟨[.int, (.array .long), .long], none⟩ := by decide +kernel
theorem ow_6 {Z : State} {a0 : Array Value} (hw : ∀ d ∈ tables_1, d.before a0 Z = true) : (Jvm.Cond.instanceMethod ({ cls := "com/example/binlease/binlease/model/Server", name := "<init>", desc := "(I[JJ)V" } : Jvm.MethodName)).before a0 Z = true := hw _ (List.mem_of_getElem? (i := 6) rfl)
theorem ow_7 {Z : State} {a0 : Array Value} (hw : ∀ d ∈ tables_1, d.before a0 Z = true) : (Jvm.Cond.code ({ cls := "com/example/binlease/binlease/model/Server", name := "<init>", desc := "(I[JJ)V" } : Jvm.MethodName) prog_25_method_1_code (5 : Nat) (Option.none : Option Jvm.ClassFile.FieldType)).before a0 Z = true := hw _ (List.mem_of_getElem? (i := 7) rfl)
theorem ow_30 {Z : State} {a0 : Array Value} (hw : ∀ d ∈ tables_1, d.before a0 Z = true) : (Jvm.Cond.classLink "com/example/binlease/binlease/policy/NextFitClosedPinLaw" (16 : Nat) "com/example/binlease/binlease/model/Job").before a0 Z = true := hw _ (List.mem_of_getElem? (i := 30) rfl)
theorem ow_33 {Z : State} {a0 : Array Value} (hw : ∀ d ∈ tables_1, d.before a0 Z = true) : (Jvm.Cond.stringLink "com/example/binlease/binlease/policy/NextFitClosedPinLaw" (18 : Nat) "j").before a0 Z = true := hw _ (List.mem_of_getElem? (i := 33) rfl)
theorem ow_34 {Z : State} {a0 : Array Value} (hw : ∀ d ∈ tables_1, d.before a0 Z = true) : (Jvm.Cond.initialized "java/lang/String").before a0 Z = true := hw _ (List.mem_of_getElem? (i := 34) rfl)
theorem ow_35 {Z : State} {a0 : Array Value} (hw : ∀ d ∈ tables_1, d.before a0 Z = true) : (Jvm.Cond.instantiable "java/lang/String" (4 : Nat)).before a0 Z = true := hw _ (List.mem_of_getElem? (i := 35) rfl)
theorem ow_36 {Z : State} {a0 : Array Value} (hw : ∀ d ∈ tables_1, d.before a0 Z = true) : (Jvm.Cond.arrayClass Jvm.ClassFile.FieldType.byte).before a0 Z = true := hw _ (List.mem_of_getElem? (i := 36) rfl)
theorem ow_37 {Z : State} {a0 : Array Value} (hw : ∀ d ∈ tables_1, d.before a0 Z = true) : (Jvm.Cond.laysFinal "java/lang/String" "java/lang/String" "value" "[B").before a0 Z = true := hw _ (List.mem_of_getElem? (i := 37) rfl)
theorem ow_38 {Z : State} {a0 : Array Value} (hw : ∀ d ∈ tables_1, d.before a0 Z = true) : (Jvm.Cond.laysFinal "java/lang/String" "java/lang/String" "coder" "B").before a0 Z = true := hw _ (List.mem_of_getElem? (i := 38) rfl)
theorem ow_39 {Z : State} {a0 : Array Value} (hw : ∀ d ∈ tables_1, d.before a0 Z = true) : (Jvm.Cond.soleField "java/lang/String" "value").before a0 Z = true := hw _ (List.mem_of_getElem? (i := 39) rfl)
theorem ow_40 {Z : State} {a0 : Array Value} (hw : ∀ d ∈ tables_1, d.before a0 Z = true) : (Jvm.Cond.soleField "java/lang/String" "coder").before a0 Z = true := hw _ (List.mem_of_getElem? (i := 40) rfl)
theorem own_wS {Z : State} {a0 : Array Value} (hw : ∀ d ∈ tables_1, d.before a0 Z = true) : ∀ a ∈ Bundle.stringAtoms, a.before a0 Z = true := by
  intro d hd
  simp only [Bundle.stringAtoms, List.mem_cons, List.not_mem_nil, or_false] at hd
  rcases hd with rfl | rfl | rfl | rfl | rfl | rfl | rfl
  · exact (ow_34 hw)
  · exact (ow_35 hw)
  · exact (ow_36 hw)
  · exact (ow_37 hw)
  · exact (ow_38 hw)
  · exact (ow_39 hw)
  · exact (ow_40 hw)
theorem ow_41 {Z : State} {a0 : Array Value} (hw : ∀ d ∈ tables_1, d.before a0 Z = true) : (Jvm.Cond.methodLink "com/example/binlease/binlease/policy/NextFitClosedPinLaw" (20 : Nat) ({ cls := "com/example/binlease/binlease/model/Job", name := "<init>", desc := "(Ljava/lang/String;JJ[J)V" } : Jvm.MethodName)).before a0 Z = true := hw _ (List.mem_of_getElem? (i := 41) rfl)
theorem opd__Ljava_lang_String_JJ_J_V : parseMethodDescriptor "(Ljava/lang/String;JJ[J)V" = some ⟨[(.object "java/lang/String"), .long, .long, (.array .long)], none⟩ := by decide +kernel
theorem ow_42 {Z : State} {a0 : Array Value} (hw : ∀ d ∈ tables_1, d.before a0 Z = true) : (Jvm.Cond.instanceMethod ({ cls := "com/example/binlease/binlease/model/Job", name := "<init>", desc := "(Ljava/lang/String;JJ[J)V" } : Jvm.MethodName)).before a0 Z = true := hw _ (List.mem_of_getElem? (i := 42) rfl)
theorem ow_43 {Z : State} {a0 : Array Value} (hw : ∀ d ∈ tables_1, d.before a0 Z = true) : (Jvm.Cond.code ({ cls := "com/example/binlease/binlease/model/Job", name := "<init>", desc := "(Ljava/lang/String;JJ[J)V" } : Jvm.MethodName) prog_24_method_2_code (7 : Nat) (Option.none : Option Jvm.ClassFile.FieldType)).before a0 Z = true := hw _ (List.mem_of_getElem? (i := 43) rfl)
theorem ow_60 {Z : State} {a0 : Array Value} (hw : ∀ d ∈ tables_1, d.before a0 Z = true) : (Jvm.Cond.classLink "com/example/binlease/binlease/policy/NextFitClosedPinLaw" (23 : Nat) "com/example/binlease/binlease/policy/NextFit").before a0 Z = true := hw _ (List.mem_of_getElem? (i := 60) rfl)
theorem ow_62 {Z : State} {a0 : Array Value} (hw : ∀ d ∈ tables_1, d.before a0 Z = true) : (Jvm.Cond.initialized "com/example/binlease/binlease/policy/NextFit").before a0 Z = true := hw _ (List.mem_of_getElem? (i := 62) rfl)
theorem ow_63 {Z : State} {a0 : Array Value} (hw : ∀ d ∈ tables_1, d.before a0 Z = true) : (Jvm.Cond.methodLink "com/example/binlease/binlease/policy/NextFitClosedPinLaw" (25 : Nat) ({ cls := "com/example/binlease/binlease/policy/NextFit", name := "<init>", desc := "()V" } : Jvm.MethodName)).before a0 Z = true := hw _ (List.mem_of_getElem? (i := 63) rfl)
theorem opd___V : parseMethodDescriptor "()V" = some ⟨[], none⟩ := by decide +kernel
theorem ow_64 {Z : State} {a0 : Array Value} (hw : ∀ d ∈ tables_1, d.before a0 Z = true) : (Jvm.Cond.instanceMethod ({ cls := "com/example/binlease/binlease/policy/NextFit", name := "<init>", desc := "()V" } : Jvm.MethodName)).before a0 Z = true := hw _ (List.mem_of_getElem? (i := 64) rfl)
theorem ow_65 {Z : State} {a0 : Array Value} (hw : ∀ d ∈ tables_1, d.before a0 Z = true) : (Jvm.Cond.code ({ cls := "com/example/binlease/binlease/policy/NextFit", name := "<init>", desc := "()V" } : Jvm.MethodName) prog_35_method_1_code (1 : Nat) (Option.none : Option Jvm.ClassFile.FieldType)).before a0 Z = true := hw _ (List.mem_of_getElem? (i := 65) rfl)
theorem ow_67 {Z : State} {a0 : Array Value} (hw : ∀ d ∈ tables_1, d.before a0 Z = true) : (Jvm.Cond.methodLink "com/example/binlease/binlease/policy/NextFitClosedPinLaw" (26 : Nat) ({ cls := "com/example/binlease/binlease/policy/NextFit", name := "closed", desc := "(Lcom/example/binlease/binlease/model/Server;)V" } : Jvm.MethodName)).before a0 Z = true := hw _ (List.mem_of_getElem? (i := 67) rfl)
theorem ow_70 {Z : State} {a0 : Array Value} (hw : ∀ d ∈ tables_1, d.before a0 Z = true) : (Jvm.Cond.selects "com/example/binlease/binlease/policy/NextFit" ({ cls := "com/example/binlease/binlease/policy/NextFit", name := "closed", desc := "(Lcom/example/binlease/binlease/model/Server;)V" } : Jvm.MethodName) ({ cls := "com/example/binlease/binlease/policy/NextFit", name := "closed", desc := "(Lcom/example/binlease/binlease/model/Server;)V" } : Jvm.MethodName)).before a0 Z = true := hw _ (List.mem_of_getElem? (i := 70) rfl)
theorem opd__Lcom_example_binlease_binlease_model_Server__V : parseMethodDescriptor "(Lcom/example/binlease/binlease/model/Server;)V" = some ⟨[(.object "com/example/binlease/binlease/model/Server")], none⟩ := by decide +kernel
theorem ow_68 {Z : State} {a0 : Array Value} (hw : ∀ d ∈ tables_1, d.before a0 Z = true) : (Jvm.Cond.declares ({ cls := "com/example/binlease/binlease/policy/NextFit", name := "closed", desc := "(Lcom/example/binlease/binlease/model/Server;)V" } : Jvm.MethodName)).before a0 Z = true := hw _ (List.mem_of_getElem? (i := 68) rfl)
theorem ow_69 {Z : State} {a0 : Array Value} (hw : ∀ d ∈ tables_1, d.before a0 Z = true) : (Jvm.Cond.instanceMethod ({ cls := "com/example/binlease/binlease/policy/NextFit", name := "closed", desc := "(Lcom/example/binlease/binlease/model/Server;)V" } : Jvm.MethodName)).before a0 Z = true := hw _ (List.mem_of_getElem? (i := 69) rfl)
theorem ow_71 {Z : State} {a0 : Array Value} (hw : ∀ d ∈ tables_1, d.before a0 Z = true) : (Jvm.Cond.code ({ cls := "com/example/binlease/binlease/policy/NextFit", name := "closed", desc := "(Lcom/example/binlease/binlease/model/Server;)V" } : Jvm.MethodName) prog_35_method_5_code (2 : Nat) (Option.none : Option Jvm.ClassFile.FieldType)).before a0 Z = true := hw _ (List.mem_of_getElem? (i := 71) rfl)
theorem ow_74 {Z : State} {a0 : Array Value} (hw : ∀ d ∈ tables_1, d.before a0 Z = true) : (Jvm.Cond.methodLink "com/example/binlease/binlease/policy/NextFitClosedPinLaw" (33 : Nat) ({ cls := "com/example/binlease/binlease/policy/NextFit", name := "choose", desc := "(Lcom/example/binlease/binlease/model/Job;)Lcom/example/binlease/binlease/model/Server;" } : Jvm.MethodName)).before a0 Z = true := hw _ (List.mem_of_getElem? (i := 74) rfl)
theorem ow_77 {Z : State} {a0 : Array Value} (hw : ∀ d ∈ tables_1, d.before a0 Z = true) : (Jvm.Cond.selects "com/example/binlease/binlease/policy/NextFit" ({ cls := "com/example/binlease/binlease/policy/NextFit", name := "choose", desc := "(Lcom/example/binlease/binlease/model/Job;)Lcom/example/binlease/binlease/model/Server;" } : Jvm.MethodName) ({ cls := "com/example/binlease/binlease/policy/NextFit", name := "choose", desc := "(Lcom/example/binlease/binlease/model/Job;)Lcom/example/binlease/binlease/model/Server;" } : Jvm.MethodName)).before a0 Z = true := hw _ (List.mem_of_getElem? (i := 77) rfl)
theorem opd__Lcom_example_binlease_binlease_model_Job__Lcom_example_binlease_binlease_model_Server_ : parseMethodDescriptor "(Lcom/example/binlease/binlease/model/Job;)Lcom/example/binlease/binlease/model/Server;" = some ⟨[(.object "com/example/binlease/binlease/model/Job")], some (.object "com/example/binlease/binlease/model/Server")⟩ := by decide +kernel
theorem ow_75 {Z : State} {a0 : Array Value} (hw : ∀ d ∈ tables_1, d.before a0 Z = true) : (Jvm.Cond.declares ({ cls := "com/example/binlease/binlease/policy/NextFit", name := "choose", desc := "(Lcom/example/binlease/binlease/model/Job;)Lcom/example/binlease/binlease/model/Server;" } : Jvm.MethodName)).before a0 Z = true := hw _ (List.mem_of_getElem? (i := 75) rfl)
theorem ow_76 {Z : State} {a0 : Array Value} (hw : ∀ d ∈ tables_1, d.before a0 Z = true) : (Jvm.Cond.instanceMethod ({ cls := "com/example/binlease/binlease/policy/NextFit", name := "choose", desc := "(Lcom/example/binlease/binlease/model/Job;)Lcom/example/binlease/binlease/model/Server;" } : Jvm.MethodName)).before a0 Z = true := hw _ (List.mem_of_getElem? (i := 76) rfl)
theorem ow_78 {Z : State} {a0 : Array Value} (hw : ∀ d ∈ tables_1, d.before a0 Z = true) : (Jvm.Cond.code ({ cls := "com/example/binlease/binlease/policy/NextFit", name := "choose", desc := "(Lcom/example/binlease/binlease/model/Job;)Lcom/example/binlease/binlease/model/Server;" } : Jvm.MethodName) prog_35_method_3_code (2 : Nat) (Option.some (Jvm.ClassFile.FieldType.object "com/example/binlease/binlease/model/Server"))).before a0 Z = true := hw _ (List.mem_of_getElem? (i := 78) rfl)
theorem ow_79 {Z : State} {a0 : Array Value} (hw : ∀ d ∈ tables_1, d.before a0 Z = true) : (Jvm.Cond.methodLink "com/example/binlease/binlease/policy/NextFitClosedPinLaw" (30 : Nat) ({ cls := "com/example/binlease/binlease/policy/NextFit", name := "opened", desc := "(Lcom/example/binlease/binlease/model/Server;)V" } : Jvm.MethodName)).before a0 Z = true := hw _ (List.mem_of_getElem? (i := 79) rfl)
theorem ow_82 {Z : State} {a0 : Array Value} (hw : ∀ d ∈ tables_1, d.before a0 Z = true) : (Jvm.Cond.selects "com/example/binlease/binlease/policy/NextFit" ({ cls := "com/example/binlease/binlease/policy/NextFit", name := "opened", desc := "(Lcom/example/binlease/binlease/model/Server;)V" } : Jvm.MethodName) ({ cls := "com/example/binlease/binlease/policy/NextFit", name := "opened", desc := "(Lcom/example/binlease/binlease/model/Server;)V" } : Jvm.MethodName)).before a0 Z = true := hw _ (List.mem_of_getElem? (i := 82) rfl)
theorem ow_80 {Z : State} {a0 : Array Value} (hw : ∀ d ∈ tables_1, d.before a0 Z = true) : (Jvm.Cond.declares ({ cls := "com/example/binlease/binlease/policy/NextFit", name := "opened", desc := "(Lcom/example/binlease/binlease/model/Server;)V" } : Jvm.MethodName)).before a0 Z = true := hw _ (List.mem_of_getElem? (i := 80) rfl)
theorem ow_81 {Z : State} {a0 : Array Value} (hw : ∀ d ∈ tables_1, d.before a0 Z = true) : (Jvm.Cond.instanceMethod ({ cls := "com/example/binlease/binlease/policy/NextFit", name := "opened", desc := "(Lcom/example/binlease/binlease/model/Server;)V" } : Jvm.MethodName)).before a0 Z = true := hw _ (List.mem_of_getElem? (i := 81) rfl)
theorem ow_83 {Z : State} {a0 : Array Value} (hw : ∀ d ∈ tables_1, d.before a0 Z = true) : (Jvm.Cond.code ({ cls := "com/example/binlease/binlease/policy/NextFit", name := "opened", desc := "(Lcom/example/binlease/binlease/model/Server;)V" } : Jvm.MethodName) prog_35_method_4_code (2 : Nat) (Option.none : Option Jvm.ClassFile.FieldType)).before a0 Z = true := hw _ (List.mem_of_getElem? (i := 83) rfl)
theorem opn_com_example_binlease_binlease_policy_NextFitClosedPinLaw : plainName "com/example/binlease/binlease/policy/NextFitClosedPinLaw" = true := by first | (simp [plainName, overriddenIn]; done) | decide +kernel
theorem oef_law (m : MethodId) (u0 : Int32) (u1 : Int32) (u2 : Int32) (u3 : Int64) (u4 : Int64) (u5 : Int64) : entryFrame m #[(.int u0), (.int u1), (.int u2), (.long u3), (.long u4), (.long u5)] maxLocals = mkF m 0 #[.val (.int u0), .val (.int u1), .val (.int u2), .val (.long u3), .second, .val (.long u4), .second, .val (.long u5), .second, .unset, .unset, .unset, .unset, .unset, .unset, .unset, .unset] [] := by first | (simp [entryFrame, mkF, argsToLocals, Value.category, maxLocals]; done) | rfl
set_option maxRecDepth 65536 in
set_option maxHeartbeats 40000000 in
theorem own_law (l : Launch) (Z : State) (a0 : Array Value) (hw : ∀ d ∈ tables_1, d.before a0 Z = true) (u0 : Int32) (u1 : Int32) (u2 : Int32) (u3 : Int64) (u4 : Int64) (u5 : Int64) (h0 : Heap) (n0 : Nat) (Z0 : n0 ≤ h0.size) :
    own_MW l Z x code maxLocals ret tables_1 room_1 #[(.int u0), (.int u1), (.int u2), (.long u3), (.long u4), (.long u5)] h0 (fun v h L => v = some (.int 1) ∧ Fr n0 L) 14 36 := by
  refine own_bodyW (plainFor_of_name opn_com_example_binlease_binlease_policy_NextFitClosedPinLaw) ?_
  intro p e s m below meth c s1 hx hby hml' hown hnm hret hlk hZ X0 e0
  have hml : c.maxLocals = 17 := hml'
  rw [oef_law m u0 u1 u2 u3 u4 u5]
  have N0 := Fr.nil n0
  refine own_iloadN X0 hx (hb hby at_0) rfl (pc' := 1) rfl ?_
  refine own_iconst X0 hx (hb hby at_1) (z := (3 : Int32)) rfl (pc' := 2) rfl ?_
  refine own_iand X0 hx (hb hby at_2) (pc' := 3) rfl ?_
  refine own_istore X0 hx (hb hby at_3) (l' := #[.val (.int u0), .val (.int u1), .val (.int u2), .val (.long u3), .second, .val (.long u4), .second, .val (.long u5), .second, .val (.int (u0 &&& (3 : Int32))), .unset, .unset, .unset, .unset, .unset, .unset, .unset]) rfl (pc' := 5) rfl ?_
  refine own_lload X0 hx (hb hby at_5) rfl (pc' := 7) rfl ?_
  refine own_ldc2 X0 hx hZ hown (ow_0 hw) (hb hby at_7) (pc' := 10) rfl ?_
  refine own_land X0 hx (hb hby at_10) (pc' := 11) rfl ?_
  refine own_lstore X0 hx (hb hby at_11) (l' := #[.val (.int u0), .val (.int u1), .val (.int u2), .val (.long u3), .second, .val (.long u4), .second, .val (.long u5), .second, .val (.int (u0 &&& (3 : Int32))), .val (.long (u5 &&& (9223372036854775807 : Int64))), .second, .unset, .unset, .unset, .unset, .unset]) rfl (pc' := 13) rfl ?_
  refine own_new X0 hx hZ hown (ow_1 hw) (ow_2 hw) (ow_3 hw) e0 (hb hby at_13) (pc' := 16) rfl (by decide) (by decide) ?_
  intro T1 h1 a1 g1 X1 e1 E1 A1 D1
  have ge_a1 : n0 ≤ a1 := by rw [g1]; exact Z0
  have F1_open : Fld Z h1 a1 "com/example/binlease/binlease/model/Server" "open" "Z" (.int (0 : Int32)) := D1 (Or.inl (ow_12 hw)) (ty := .boolean) (by decide)
  have F1_number : Fld Z h1 a1 "com/example/binlease/binlease/model/Server" "number" "I" (.int (0 : Int32)) := D1 (Or.inr (ow_14 hw)) (ty := .int) (by decide)
  have F1_capacity : Fld Z h1 a1 "com/example/binlease/binlease/model/Server" "capacity" "[J" (.null) := D1 (Or.inr (ow_25 hw)) (ty := (.array .long)) (by decide)
  have F1_load : Fld Z h1 a1 "com/example/binlease/binlease/model/Server" "load" "[J" (.null) := D1 (Or.inr (ow_27 hw)) (ty := (.array .long)) (by decide)
  have F1_openedAt : Fld Z h1 a1 "com/example/binlease/binlease/model/Server" "openedAt" "J" (.long (0 : Int64)) := D1 (Or.inr (ow_29 hw)) (ty := .long) (by decide)
  refine own_dup X1 hx (hb hby at_16) rfl (pc' := 17) rfl ?_
  refine own_iloadN X1 hx (hb hby at_17) rfl (pc' := 18) rfl ?_
  refine own_iconst X1 hx (hb hby at_18) (z := (1 : Int32)) rfl (pc' := 19) rfl ?_
  have z3 : n0 ≤ h1.size := (Nat.le_trans Z0 E1.1)
  refine own_newE X1 hx hZ (ow_4 hw) e1 (hb hby at_19) (pc' := 21) rfl (by decide) (cap := 1) (by decide) (by decide) (by decide) (by decide) ?_
  intro T2 h2 a2 g2 X2 e2 E2 A2 Bx2
  have lt_a1_a2 : a1 < a2 := by rw [g2]; exact A1.lt
  have ge_a2 : n0 ≤ a2 := by rw [g2]; exact z3
  have B2 : own_AJ Z h2 a2 .long (1 : Int32) (own_LJ [(0 : Int64)]) := A2.same (by decide)
  refine own_dup X2 hx (hb hby at_21) rfl (pc' := 22) rfl ?_
  refine own_iconst X2 hx (hb hby at_22) (z := (0 : Int32)) rfl (pc' := 23) rfl ?_
  refine own_lloadN X2 hx (hb hby at_23) rfl (pc' := 24) rfl ?_
  refine own_lastore X2 hx hZ e2 (g' := (own_LJ [u3])) B2 (x' := u3) (by decide) rfl (fun i _ => own_LJ_set [(0 : Int64)] 0 u3 (by simp) i) (hb hby at_24) (pc' := 25) rfl ?_
  intro T4 h4 X4 e4 W4 A4
  have N4 := Fr.snoc X4 N0 ge_a2
  refine own_lconst X4 hx (hb hby at_25) (z := (0 : Int64)) (by decide) (pc' := 26) rfl ?_
  have f6 : Exa Z h4 a1 "com/example/binlease/binlease/model/Server" := ((A1.ext E2).wr W4)
  have f7 : Exa Z h4 a2 "[J" := (Bx2.wr W4)
  have f8 : Fld Z h4 a1 "com/example/binlease/binlease/model/Server" "open" "Z" (.int (0 : Int32)) := ((F1_open.ext E2).other W4 (Or.inl (Nat.ne_of_lt lt_a1_a2)))
  have f9 : Fld Z h4 a1 "com/example/binlease/binlease/model/Server" "number" "I" (.int (0 : Int32)) := ((F1_number.ext E2).other W4 (Or.inl (Nat.ne_of_lt lt_a1_a2)))
  have f10 : Fld Z h4 a1 "com/example/binlease/binlease/model/Server" "capacity" "[J" (.null) := ((F1_capacity.ext E2).other W4 (Or.inl (Nat.ne_of_lt lt_a1_a2)))
  have f11 : Fld Z h4 a1 "com/example/binlease/binlease/model/Server" "load" "[J" (.null) := ((F1_load.ext E2).other W4 (Or.inl (Nat.ne_of_lt lt_a1_a2)))
  have f12 : Fld Z h4 a1 "com/example/binlease/binlease/model/Server" "openedAt" "J" (.long (0 : Int64)) := ((F1_openedAt.ext E2).other W4 (Or.inl (Nat.ne_of_lt lt_a1_a2)))
  have z13 : n0 ≤ h4.size := (Nat.le_trans (Nat.le_trans z3 E2.1) (Nat.le_of_eq (Wr.size W4).symm))
  refine own_callC X4 hx hZ rfl hown (ow_5 hw) (ow_6 hw) (ow_3 hw) (ow_7 hw) (by decide) (rm_srv l Z a0 hw a1 a2 u1 (0 : Int64) u3 (.int (0 : Int32)) (.int (0 : Int32)) .null .null (.long (0 : Int64)) h4 n0 z13 f6 f7 A4 f8 f9 f10 f11 f12 ge_a1 (Nat.ne_of_lt lt_a1_a2)) e4 (W := 1) (by decide) (by decide) opd__I_JJ_V rfl (rest := [(.ref a1)]) rfl (hb hby at_26) (Nat.le_of_eq rfl) (by rw [hml]; rfl) (by decide) (by decide) (pc' := 29) rfl ?_
  intro v5 T5 L5 X5 q5
  obtain ⟨rc_5, rd_5, rfl, Nq5, K5, gz5_rc_5, gz5_rd_5, p5_0, p5_1, p5_2, p5_3, p5_4, p5_5, p5_6, p5_7, p5_8, x5_0⟩ := q5
  have lt_a1_rc_5 : a1 < rc_5 := Nat.lt_of_lt_of_le f6.lt gz5_rc_5
  have lt_a1_rd_5 : a1 < rd_5 := Nat.lt_of_lt_of_le f6.lt gz5_rd_5
  have lt_a2_rc_5 : a2 < rc_5 := Nat.lt_of_lt_of_le f7.lt gz5_rc_5
  have lt_a2_rd_5 : a2 < rd_5 := Nat.lt_of_lt_of_le f7.lt gz5_rd_5
  have ge_rc_5 : n0 ≤ rc_5 := Nat.le_trans z13 gz5_rc_5
  have ge_rd_5 : n0 ≤ rd_5 := Nat.le_trans z13 gz5_rd_5
  have N5 := Fr.app N4 Nq5
  show own_G p e below _ (T5.setTop (mkF m 29 #[.val (.int u0), .val (.int u1), .val (.int u2), .val (.long u3), .second, .val (.long u4), .second, .val (.long u5), .second, .val (.int (u0 &&& (3 : Int32))), .val (.long (u5 &&& (9223372036854775807 : Int64))), .second, .unset, .unset, .unset, .unset, .unset] [(.ref a1)]))
  refine own_astore X5 hx (hb hby at_29) rfl (l' := #[.val (.int u0), .val (.int u1), .val (.int u2), .val (.long u3), .second, .val (.long u4), .second, .val (.long u5), .second, .val (.int (u0 &&& (3 : Int32))), .val (.long (u5 &&& (9223372036854775807 : Int64))), .second, .val (.ref a1), .unset, .unset, .unset, .unset]) rfl (pc' := 31) rfl ?_
  have z15 : n0 ≤ T5.heap.size := (Nat.le_trans z13 K5.1)
  have f16 : Exa Z T5.heap a1 "com/example/binlease/binlease/model/Server" := (f6.keep K5)
  have f17 : Exa Z T5.heap a2 "[J" := (f7.keep K5)
  refine own_new X5 hx hZ hown (ow_1 hw) (ow_2 hw) (ow_3 hw) rfl (hb hby at_31) (pc' := 34) rfl (by decide) (by decide) ?_
  intro T14 h14 a14 g14 X14 e14 E14 A14 D14
  have lt_a1_a14 : a1 < a14 := by rw [g14]; exact f16.lt
  have lt_a2_a14 : a2 < a14 := by rw [g14]; exact f17.lt
  have lt_rc_5_a14 : rc_5 < a14 := by rw [g14]; exact p5_5.lt
  have lt_rd_5_a14 : rd_5 < a14 := by rw [g14]; exact p5_7.lt
  have ge_a14 : n0 ≤ a14 := by rw [g14]; exact z15
  have F14_open : Fld Z h14 a14 "com/example/binlease/binlease/model/Server" "open" "Z" (.int (0 : Int32)) := D14 (Or.inl (ow_12 hw)) (ty := .boolean) (by decide)
  have F14_number : Fld Z h14 a14 "com/example/binlease/binlease/model/Server" "number" "I" (.int (0 : Int32)) := D14 (Or.inr (ow_14 hw)) (ty := .int) (by decide)
  have F14_capacity : Fld Z h14 a14 "com/example/binlease/binlease/model/Server" "capacity" "[J" (.null) := D14 (Or.inr (ow_25 hw)) (ty := (.array .long)) (by decide)
  have F14_load : Fld Z h14 a14 "com/example/binlease/binlease/model/Server" "load" "[J" (.null) := D14 (Or.inr (ow_27 hw)) (ty := (.array .long)) (by decide)
  have F14_openedAt : Fld Z h14 a14 "com/example/binlease/binlease/model/Server" "openedAt" "J" (.long (0 : Int64)) := D14 (Or.inr (ow_29 hw)) (ty := .long) (by decide)
  refine own_dup X14 hx (hb hby at_34) rfl (pc' := 35) rfl ?_
  refine own_iloadN X14 hx (hb hby at_35) rfl (pc' := 36) rfl ?_
  refine own_iconst X14 hx (hb hby at_36) (z := (1 : Int32)) rfl (pc' := 37) rfl ?_
  have z19 : n0 ≤ h14.size := (Nat.le_trans z15 E14.1)
  have f20 : Exa Z h14 a1 "com/example/binlease/binlease/model/Server" := (f16.ext E14)
  have f21 : Exa Z h14 a2 "[J" := (f17.ext E14)
  have f22 : Exa Z h14 rc_5 "[J" := (p5_5.ext E14)
  have f23 : Exa Z h14 rd_5 "[J" := (p5_7.ext E14)
  refine own_newE X14 hx hZ (ow_4 hw) e14 (hb hby at_37) (pc' := 39) rfl (by decide) (cap := 1) (by decide) (by decide) (by decide) (by decide) ?_
  intro T18 h18 a18 g18 X18 e18 E18 A18 Bx18
  have lt_a1_a18 : a1 < a18 := by rw [g18]; exact f20.lt
  have lt_a14_a18 : a14 < a18 := by rw [g18]; exact A14.lt
  have lt_a2_a18 : a2 < a18 := by rw [g18]; exact f21.lt
  have lt_rc_5_a18 : rc_5 < a18 := by rw [g18]; exact f22.lt
  have lt_rd_5_a18 : rd_5 < a18 := by rw [g18]; exact f23.lt
  have ge_a18 : n0 ≤ a18 := by rw [g18]; exact z19
  have B18 : own_AJ Z h18 a18 .long (1 : Int32) (own_LJ [(0 : Int64)]) := A18.same (by decide)
  refine own_dup X18 hx (hb hby at_39) rfl (pc' := 40) rfl ?_
  refine own_iconst X18 hx (hb hby at_40) (z := (0 : Int32)) rfl (pc' := 41) rfl ?_
  refine own_lload X18 hx (hb hby at_41) rfl (pc' := 43) rfl ?_
  refine own_lastore X18 hx hZ e18 (g' := (own_LJ [u4])) B18 (x' := u4) (by decide) rfl (fun i _ => own_LJ_set [(0 : Int64)] 0 u4 (by simp) i) (hb hby at_43) (pc' := 44) rfl ?_
  intro T24 h24 X24 e24 W24 A24
  have N24 := Fr.snoc X24 N5 ge_a18
  refine own_lconst X24 hx (hb hby at_44) (z := (0 : Int64)) (by decide) (pc' := 45) rfl ?_
  have f26 : Exa Z h24 a14 "com/example/binlease/binlease/model/Server" := ((A14.ext E18).wr W24)
  have f27 : Exa Z h24 a18 "[J" := (Bx18.wr W24)
  have f28 : Fld Z h24 a14 "com/example/binlease/binlease/model/Server" "open" "Z" (.int (0 : Int32)) := ((F14_open.ext E18).other W24 (Or.inl (Nat.ne_of_lt lt_a14_a18)))
  have f29 : Fld Z h24 a14 "com/example/binlease/binlease/model/Server" "number" "I" (.int (0 : Int32)) := ((F14_number.ext E18).other W24 (Or.inl (Nat.ne_of_lt lt_a14_a18)))
  have f30 : Fld Z h24 a14 "com/example/binlease/binlease/model/Server" "capacity" "[J" (.null) := ((F14_capacity.ext E18).other W24 (Or.inl (Nat.ne_of_lt lt_a14_a18)))
  have f31 : Fld Z h24 a14 "com/example/binlease/binlease/model/Server" "load" "[J" (.null) := ((F14_load.ext E18).other W24 (Or.inl (Nat.ne_of_lt lt_a14_a18)))
  have f32 : Fld Z h24 a14 "com/example/binlease/binlease/model/Server" "openedAt" "J" (.long (0 : Int64)) := ((F14_openedAt.ext E18).other W24 (Or.inl (Nat.ne_of_lt lt_a14_a18)))
  have z33 : n0 ≤ h24.size := (Nat.le_trans (Nat.le_trans z19 E18.1) (Nat.le_of_eq (Wr.size W24).symm))
  refine own_callC X24 hx hZ rfl hown (ow_5 hw) (ow_6 hw) (ow_3 hw) (ow_7 hw) (by decide) (rm_srv l Z a0 hw a14 a18 u2 (0 : Int64) u4 (.int (0 : Int32)) (.int (0 : Int32)) .null .null (.long (0 : Int64)) h24 n0 z33 f26 f27 A24 f28 f29 f30 f31 f32 ge_a14 (Nat.ne_of_lt lt_a14_a18)) e24 (W := 1) (by decide) (by decide) opd__I_JJ_V rfl (rest := [(.ref a14)]) rfl (hb hby at_45) (Nat.le_of_eq rfl) (by rw [hml]; rfl) (by decide) (by decide) (pc' := 48) rfl ?_
  intro v25 T25 L25 X25 q25
  have f34 : Exa Z h24 a1 "com/example/binlease/binlease/model/Server" := ((f20.ext E18).wr W24)
  have f35 : Exa Z h24 a2 "[J" := ((f21.ext E18).wr W24)
  have f36 : Exa Z h24 rc_5 "[J" := ((f22.ext E18).wr W24)
  have f37 : Exa Z h24 rd_5 "[J" := ((f23.ext E18).wr W24)
  obtain ⟨rc_25, rd_25, rfl, Nq25, K25, gz25_rc_25, gz25_rd_25, p25_0, p25_1, p25_2, p25_3, p25_4, p25_5, p25_6, p25_7, p25_8, x25_0⟩ := q25
  have lt_a1_rc_25 : a1 < rc_25 := Nat.lt_of_lt_of_le f34.lt gz25_rc_25
  have lt_a1_rd_25 : a1 < rd_25 := Nat.lt_of_lt_of_le f34.lt gz25_rd_25
  have lt_a14_rc_25 : a14 < rc_25 := Nat.lt_of_lt_of_le f26.lt gz25_rc_25
  have lt_a14_rd_25 : a14 < rd_25 := Nat.lt_of_lt_of_le f26.lt gz25_rd_25
  have lt_a18_rc_25 : a18 < rc_25 := Nat.lt_of_lt_of_le f27.lt gz25_rc_25
  have lt_a18_rd_25 : a18 < rd_25 := Nat.lt_of_lt_of_le f27.lt gz25_rd_25
  have lt_a2_rc_25 : a2 < rc_25 := Nat.lt_of_lt_of_le f35.lt gz25_rc_25
  have lt_a2_rd_25 : a2 < rd_25 := Nat.lt_of_lt_of_le f35.lt gz25_rd_25
  have lt_rc_5_rc_25 : rc_5 < rc_25 := Nat.lt_of_lt_of_le f36.lt gz25_rc_25
  have lt_rc_5_rd_25 : rc_5 < rd_25 := Nat.lt_of_lt_of_le f36.lt gz25_rd_25
  have lt_rd_5_rc_25 : rd_5 < rc_25 := Nat.lt_of_lt_of_le f37.lt gz25_rc_25
  have lt_rd_5_rd_25 : rd_5 < rd_25 := Nat.lt_of_lt_of_le f37.lt gz25_rd_25
  have ge_rc_25 : n0 ≤ rc_25 := Nat.le_trans z33 gz25_rc_25
  have ge_rd_25 : n0 ≤ rd_25 := Nat.le_trans z33 gz25_rd_25
  have N25 := Fr.app N24 Nq25
  show own_G p e below _ (T25.setTop (mkF m 48 #[.val (.int u0), .val (.int u1), .val (.int u2), .val (.long u3), .second, .val (.long u4), .second, .val (.long u5), .second, .val (.int (u0 &&& (3 : Int32))), .val (.long (u5 &&& (9223372036854775807 : Int64))), .second, .val (.ref a1), .unset, .unset, .unset, .unset] [(.ref a14)]))
  refine own_astore X25 hx (hb hby at_48) rfl (l' := #[.val (.int u0), .val (.int u1), .val (.int u2), .val (.long u3), .second, .val (.long u4), .second, .val (.long u5), .second, .val (.int (u0 &&& (3 : Int32))), .val (.long (u5 &&& (9223372036854775807 : Int64))), .second, .val (.ref a1), .val (.ref a14), .unset, .unset, .unset]) rfl (pc' := 50) rfl ?_
  have z39 : n0 ≤ T25.heap.size := (Nat.le_trans z33 K25.1)
  have f40 : Exa Z T25.heap a1 "com/example/binlease/binlease/model/Server" := (f34.keep K25)
  have f41 : Exa Z T25.heap a14 "com/example/binlease/binlease/model/Server" := (f26.keep K25)
  have f42 : Exa Z T25.heap a18 "[J" := (f27.keep K25)
  have f43 : Exa Z T25.heap a2 "[J" := (f35.keep K25)
  have f44 : Exa Z T25.heap rc_5 "[J" := (f36.keep K25)
  have f45 : Exa Z T25.heap rd_5 "[J" := (f37.keep K25)
  refine own_new X25 hx hZ hown (ow_30 hw) (ow_31 hw) (ow_32 hw) rfl (hb hby at_50) (pc' := 53) rfl (by decide) (by decide) ?_
  intro T38 h38 a38 g38 X38 e38 E38 A38 D38
  have lt_a1_a38 : a1 < a38 := by rw [g38]; exact f40.lt
  have lt_a14_a38 : a14 < a38 := by rw [g38]; exact f41.lt
  have lt_a18_a38 : a18 < a38 := by rw [g38]; exact f42.lt
  have lt_a2_a38 : a2 < a38 := by rw [g38]; exact f43.lt
  have lt_rc_25_a38 : rc_25 < a38 := by rw [g38]; exact p25_5.lt
  have lt_rc_5_a38 : rc_5 < a38 := by rw [g38]; exact f44.lt
  have lt_rd_25_a38 : rd_25 < a38 := by rw [g38]; exact p25_7.lt
  have lt_rd_5_a38 : rd_5 < a38 := by rw [g38]; exact f45.lt
  have ge_a38 : n0 ≤ a38 := by rw [g38]; exact z39
  have F38_id : Fld Z h38 a38 "com/example/binlease/binlease/model/Job" "id" "Ljava/lang/String;" (.null) := D38 (Or.inr (ow_49 hw)) (ty := (.object "java/lang/String")) (by decide)
  have F38_arrival : Fld Z h38 a38 "com/example/binlease/binlease/model/Job" "arrival" "J" (.long (0 : Int64)) := D38 (Or.inr (ow_51 hw)) (ty := .long) (by decide)
  have F38_departure : Fld Z h38 a38 "com/example/binlease/binlease/model/Job" "departure" "J" (.long (0 : Int64)) := D38 (Or.inr (ow_53 hw)) (ty := .long) (by decide)
  have F38_departureKnown : Fld Z h38 a38 "com/example/binlease/binlease/model/Job" "departureKnown" "Z" (.int (0 : Int32)) := D38 (Or.inr (ow_55 hw)) (ty := .boolean) (by decide)
  have F38_sizes : Fld Z h38 a38 "com/example/binlease/binlease/model/Job" "sizes" "[J" (.null) := D38 (Or.inr (ow_59 hw)) (ty := (.array .long)) (by decide)
  refine own_dup X38 hx (hb hby at_53) rfl (pc' := 54) rfl ?_
  refine own_ldcS X38 hx hZ hown (ow_33 hw) (own_wS hw) e38 (hb hby at_54) (n := 4) (by decide) (by decide) (by decide) (by decide) (pc' := 56) rfl ?_
  intro a46 T46 h46 k1 X46 e46 E46 hSi hki hZ hown
  refine own_lconst X46 hx (hb hby at_56) (z := (0 : Int64)) (by decide) (pc' := 57) rfl ?_
  refine own_lconst X46 hx (hb hby at_57) (z := (0 : Int64)) (by decide) (pc' := 58) rfl ?_
  refine own_iconst X46 hx (hb hby at_58) (z := (1 : Int32)) rfl (pc' := 59) rfl ?_
  have z48 : n0 ≤ h46.size := (Nat.le_trans (Nat.le_trans z39 E38.1) E46.1)
  have f49 : Exa Z h46 a1 "com/example/binlease/binlease/model/Server" := ((f40.ext E38).ext E46)
  have f50 : Exa Z h46 a14 "com/example/binlease/binlease/model/Server" := ((f41.ext E38).ext E46)
  have f51 : Exa Z h46 a18 "[J" := ((f42.ext E38).ext E46)
  have f52 : Exa Z h46 a2 "[J" := ((f43.ext E38).ext E46)
  have f53 : Exa Z h46 a38 "com/example/binlease/binlease/model/Job" := (A38.ext E46)
  have f54 : Exa Z h46 rc_25 "[J" := ((p25_5.ext E38).ext E46)
  have f55 : Exa Z h46 rc_5 "[J" := ((f44.ext E38).ext E46)
  have f56 : Exa Z h46 rd_25 "[J" := ((p25_7.ext E38).ext E46)
  have f57 : Exa Z h46 rd_5 "[J" := ((f45.ext E38).ext E46)
  refine own_newE X46 hx hZ (ow_4 hw) e46 (hb hby at_59) (pc' := 61) rfl (by decide) (cap := 1) (by decide) (by decide) (by decide) (by decide) ?_
  intro T47 h47 a47 g47 X47 e47 E47 A47 Bx47
  have lt_a1_a47 : a1 < a47 := by rw [g47]; exact f49.lt
  have lt_a14_a47 : a14 < a47 := by rw [g47]; exact f50.lt
  have lt_a18_a47 : a18 < a47 := by rw [g47]; exact f51.lt
  have lt_a2_a47 : a2 < a47 := by rw [g47]; exact f52.lt
  have lt_a38_a47 : a38 < a47 := by rw [g47]; exact f53.lt
  have lt_rc_25_a47 : rc_25 < a47 := by rw [g47]; exact f54.lt
  have lt_rc_5_a47 : rc_5 < a47 := by rw [g47]; exact f55.lt
  have lt_rd_25_a47 : rd_25 < a47 := by rw [g47]; exact f56.lt
  have lt_rd_5_a47 : rd_5 < a47 := by rw [g47]; exact f57.lt
  have ge_a47 : n0 ≤ a47 := by rw [g47]; exact z48
  have B47 : own_AJ Z h47 a47 .long (1 : Int32) (own_LJ [(0 : Int64)]) := A47.same (by decide)
  refine own_dup X47 hx (hb hby at_61) rfl (pc' := 62) rfl ?_
  refine own_iconst X47 hx (hb hby at_62) (z := (0 : Int32)) rfl (pc' := 63) rfl ?_
  refine own_lload X47 hx (hb hby at_63) rfl (pc' := 65) rfl ?_
  refine own_lastore X47 hx hZ e47 (g' := (own_LJ [(u5 &&& (9223372036854775807 : Int64))])) B47 (x' := (u5 &&& (9223372036854775807 : Int64))) (by decide) rfl (fun i _ => own_LJ_set [(0 : Int64)] 0 (u5 &&& (9223372036854775807 : Int64)) (by simp) i) (hb hby at_65) (pc' := 66) rfl ?_
  intro T58 h58 X58 e58 W58 A58
  have N58 := Fr.snoc X58 N25 ge_a47
  have f60 : Exa Z h58 a38 "com/example/binlease/binlease/model/Job" := ((f53.ext E47).wr W58)
  have f61 : Exa Z h58 a47 "[J" := (Bx47.wr W58)
  have f62 : Fld Z h58 a38 "com/example/binlease/binlease/model/Job" "id" "Ljava/lang/String;" (.null) := (((F38_id.ext E46).ext E47).other W58 (Or.inl (Nat.ne_of_lt lt_a38_a47)))
  have f63 : Fld Z h58 a38 "com/example/binlease/binlease/model/Job" "arrival" "J" (.long (0 : Int64)) := (((F38_arrival.ext E46).ext E47).other W58 (Or.inl (Nat.ne_of_lt lt_a38_a47)))
  have f64 : Fld Z h58 a38 "com/example/binlease/binlease/model/Job" "departure" "J" (.long (0 : Int64)) := (((F38_departure.ext E46).ext E47).other W58 (Or.inl (Nat.ne_of_lt lt_a38_a47)))
  have f65 : Fld Z h58 a38 "com/example/binlease/binlease/model/Job" "departureKnown" "Z" (.int (0 : Int32)) := (((F38_departureKnown.ext E46).ext E47).other W58 (Or.inl (Nat.ne_of_lt lt_a38_a47)))
  have f66 : Fld Z h58 a38 "com/example/binlease/binlease/model/Job" "sizes" "[J" (.null) := (((F38_sizes.ext E46).ext E47).other W58 (Or.inl (Nat.ne_of_lt lt_a38_a47)))
  have z67 : n0 ≤ h58.size := (Nat.le_trans (Nat.le_trans z48 E47.1) (Nat.le_of_eq (Wr.size W58).symm))
  refine own_callC X58 hx hZ rfl hown (ow_41 hw) (ow_42 hw) (ow_32 hw) (ow_43 hw) (by decide) (rm_job1 l Z a0 hw a38 a46 a47 (0 : Int64) (0 : Int64) (u5 &&& (9223372036854775807 : Int64)) .null (.long (0 : Int64)) (.long (0 : Int64)) (.int (0 : Int32)) .null h58 n0 z67 f60 f61 A58 f62 f63 f64 f65 f66 ge_a38 (Nat.ne_of_lt lt_a38_a47) (own_nn u5) (by decide)) e58 (W := 1) (by decide) (by decide) opd__Ljava_lang_String_JJ_J_V rfl (rest := [(.ref a38)]) rfl (hb hby at_66) (Nat.le_of_eq rfl) (by rw [hml]; rfl) (by decide) (by decide) (pc' := 69) rfl ?_
  intro v59 T59 L59 X59 q59
  have f68 : Exa Z h58 a1 "com/example/binlease/binlease/model/Server" := ((f49.ext E47).wr W58)
  have f69 : Exa Z h58 a14 "com/example/binlease/binlease/model/Server" := ((f50.ext E47).wr W58)
  have f70 : Exa Z h58 a18 "[J" := ((f51.ext E47).wr W58)
  have f71 : Exa Z h58 a2 "[J" := ((f52.ext E47).wr W58)
  have f72 : Exa Z h58 rc_25 "[J" := ((f54.ext E47).wr W58)
  have f73 : Exa Z h58 rc_5 "[J" := ((f55.ext E47).wr W58)
  have f74 : Exa Z h58 rd_25 "[J" := ((f56.ext E47).wr W58)
  have f75 : Exa Z h58 rd_5 "[J" := ((f57.ext E47).wr W58)
  obtain ⟨rc_59, rfl, Nq59, K59, gz59_rc_59, p59_0, p59_1, p59_2, p59_3, p59_4, p59_5, p59_6⟩ := q59
  have lt_a1_rc_59 : a1 < rc_59 := Nat.lt_of_lt_of_le f68.lt gz59_rc_59
  have lt_a14_rc_59 : a14 < rc_59 := Nat.lt_of_lt_of_le f69.lt gz59_rc_59
  have lt_a18_rc_59 : a18 < rc_59 := Nat.lt_of_lt_of_le f70.lt gz59_rc_59
  have lt_a2_rc_59 : a2 < rc_59 := Nat.lt_of_lt_of_le f71.lt gz59_rc_59
  have lt_a38_rc_59 : a38 < rc_59 := Nat.lt_of_lt_of_le f60.lt gz59_rc_59
  have lt_a47_rc_59 : a47 < rc_59 := Nat.lt_of_lt_of_le f61.lt gz59_rc_59
  have lt_rc_25_rc_59 : rc_25 < rc_59 := Nat.lt_of_lt_of_le f72.lt gz59_rc_59
  have lt_rc_5_rc_59 : rc_5 < rc_59 := Nat.lt_of_lt_of_le f73.lt gz59_rc_59
  have lt_rd_25_rc_59 : rd_25 < rc_59 := Nat.lt_of_lt_of_le f74.lt gz59_rc_59
  have lt_rd_5_rc_59 : rd_5 < rc_59 := Nat.lt_of_lt_of_le f75.lt gz59_rc_59
  have ge_rc_59 : n0 ≤ rc_59 := Nat.le_trans z67 gz59_rc_59
  have N59 := Fr.app N58 Nq59
  show own_G p e below _ (T59.setTop (mkF m 69 #[.val (.int u0), .val (.int u1), .val (.int u2), .val (.long u3), .second, .val (.long u4), .second, .val (.long u5), .second, .val (.int (u0 &&& (3 : Int32))), .val (.long (u5 &&& (9223372036854775807 : Int64))), .second, .val (.ref a1), .val (.ref a14), .unset, .unset, .unset] [(.ref a38)]))
  refine own_astore X59 hx (hb hby at_69) rfl (l' := #[.val (.int u0), .val (.int u1), .val (.int u2), .val (.long u3), .second, .val (.long u4), .second, .val (.long u5), .second, .val (.int (u0 &&& (3 : Int32))), .val (.long (u5 &&& (9223372036854775807 : Int64))), .second, .val (.ref a1), .val (.ref a14), .val (.ref a38), .unset, .unset]) rfl (pc' := 71) rfl ?_
  have z77 : n0 ≤ T59.heap.size := (Nat.le_trans z67 K59.1)
  have f78 : Exa Z T59.heap a1 "com/example/binlease/binlease/model/Server" := (f68.keep K59)
  have f79 : Exa Z T59.heap a14 "com/example/binlease/binlease/model/Server" := (f69.keep K59)
  have f80 : Exa Z T59.heap a18 "[J" := (f70.keep K59)
  have f81 : Exa Z T59.heap a2 "[J" := (f71.keep K59)
  have f82 : Exa Z T59.heap a38 "com/example/binlease/binlease/model/Job" := (f60.keep K59)
  have f83 : Exa Z T59.heap a47 "[J" := (f61.keep K59)
  have f84 : Exa Z T59.heap rc_25 "[J" := (f72.keep K59)
  have f85 : Exa Z T59.heap rc_5 "[J" := (f73.keep K59)
  have f86 : Exa Z T59.heap rd_25 "[J" := (f74.keep K59)
  have f87 : Exa Z T59.heap rd_5 "[J" := (f75.keep K59)
  refine own_new X59 hx hZ hown (ow_60 hw) (ow_61 hw) (ow_62 hw) rfl (hb hby at_71) (pc' := 74) rfl (by decide) (by decide) ?_
  intro T76 h76 a76 g76 X76 e76 E76 A76 D76
  have lt_a1_a76 : a1 < a76 := by rw [g76]; exact f78.lt
  have lt_a14_a76 : a14 < a76 := by rw [g76]; exact f79.lt
  have lt_a18_a76 : a18 < a76 := by rw [g76]; exact f80.lt
  have lt_a2_a76 : a2 < a76 := by rw [g76]; exact f81.lt
  have lt_a38_a76 : a38 < a76 := by rw [g76]; exact f82.lt
  have lt_a47_a76 : a47 < a76 := by rw [g76]; exact f83.lt
  have lt_rc_25_a76 : rc_25 < a76 := by rw [g76]; exact f84.lt
  have lt_rc_5_a76 : rc_5 < a76 := by rw [g76]; exact f85.lt
  have lt_rc_59_a76 : rc_59 < a76 := by rw [g76]; exact p59_5.lt
  have lt_rd_25_a76 : rd_25 < a76 := by rw [g76]; exact f86.lt
  have lt_rd_5_a76 : rd_5 < a76 := by rw [g76]; exact f87.lt
  have ge_a76 : n0 ≤ a76 := by rw [g76]; exact z77
  have F76_receiving : Fld Z h76 a76 "com/example/binlease/binlease/policy/NextFit" "receiving" "Lcom/example/binlease/binlease/model/Server;" (.null) := D76 (Or.inl (ow_73 hw)) (ty := (.object "com/example/binlease/binlease/model/Server")) (by decide)
  refine own_dup X76 hx (hb hby at_74) rfl (pc' := 75) rfl ?_
  have z89 : n0 ≤ h76.size := (Nat.le_trans z77 E76.1)
  refine own_callC X76 hx hZ rfl hown (ow_63 hw) (ow_64 hw) (ow_62 hw) (ow_65 hw) (by decide) (rm_nfi l Z a0 hw a76 h76 n0 z89) e76 (W := 1) (by decide) (by decide) opd___V rfl (rest := [(.ref a76)]) rfl (hb hby at_75) (Nat.le_of_eq rfl) (by rw [hml]; rfl) (by decide) (by decide) (pc' := 78) rfl ?_
  intro v88 T88 L88 X88 q88
  obtain ⟨rfl, Nq88, eh88⟩ := q88
  have N88 := Fr.app N59 Nq88
  show own_G p e below _ (T88.setTop (mkF m 78 #[.val (.int u0), .val (.int u1), .val (.int u2), .val (.long u3), .second, .val (.long u4), .second, .val (.long u5), .second, .val (.int (u0 &&& (3 : Int32))), .val (.long (u5 &&& (9223372036854775807 : Int64))), .second, .val (.ref a1), .val (.ref a14), .val (.ref a38), .unset, .unset] [(.ref a76)]))
  refine own_astore X88 hx (hb hby at_78) rfl (l' := #[.val (.int u0), .val (.int u1), .val (.int u2), .val (.long u3), .second, .val (.long u4), .second, .val (.long u5), .second, .val (.int (u0 &&& (3 : Int32))), .val (.long (u5 &&& (9223372036854775807 : Int64))), .second, .val (.ref a1), .val (.ref a14), .val (.ref a38), .val (.ref a76), .unset]) rfl (pc' := 80) rfl ?_
  refine own_aconstNull X88 hx (hb hby at_80) (pc' := 81) rfl ?_
  refine own_astore X88 hx (hb hby at_81) rfl (l' := #[.val (.int u0), .val (.int u1), .val (.int u2), .val (.long u3), .second, .val (.long u4), .second, .val (.long u5), .second, .val (.int (u0 &&& (3 : Int32))), .val (.long (u5 &&& (9223372036854775807 : Int64))), .second, .val (.ref a1), .val (.ref a14), .val (.ref a38), .val (.ref a76), .val (.null)]) rfl (pc' := 83) rfl ?_
  refine own_iload X88 hx (hb hby at_83) rfl (pc' := 85) rfl ?_
  by_cases c90 : (u0 &&& (3 : Int32)) = (0 : Int32)
  · refine own_ifF X88 hx (hb hby at_85) (teq c90).2 (pc' := 88) rfl ?_
    refine own_aload X88 hx (hb hby at_88) rfl rfl (pc' := 90) rfl ?_
    refine own_aload X88 hx (hb hby at_90) rfl rfl (pc' := 92) rfl ?_
    refine own_callV X88 hx hZ hown (ow_67 hw) (ow_68 hw) (ow_70 hw) (ow_69 hw) (ow_62 hw) (ow_71 hw) (by decide) A76 (rm_cl0 l Z a0 hw a76 a1 h76 n0 z89 F76_receiving) eh88 (W := 0) (by decide) (by decide) opd__Lcom_example_binlease_binlease_model_Server__V rfl (rest := []) rfl (hb hby at_92) (Nat.le_of_eq rfl) (by rw [hml]; rfl) (by decide) (by decide) (pc' := 95) rfl ?_
    intro v91 T91 L91 X91 q91
    obtain ⟨rfl, Nq91, eh91⟩ := q91
    have N91 := Fr.app N88 Nq91
    show own_G p e below _ (T91.setTop (mkF m 95 #[.val (.int u0), .val (.int u1), .val (.int u2), .val (.long u3), .second, .val (.long u4), .second, .val (.long u5), .second, .val (.int (u0 &&& (3 : Int32))), .val (.long (u5 &&& (9223372036854775807 : Int64))), .second, .val (.ref a1), .val (.ref a14), .val (.ref a38), .val (.ref a76), .val (.null)] []))
    refine own_goto X91 hx (hb hby at_95) (by decide) (pc' := 188) rfl ?_
    refine own_aload X91 hx (hb hby at_188) rfl rfl (pc' := 190) rfl ?_
    refine own_aload X91 hx (hb hby at_190) rfl rfl (pc' := 192) rfl ?_
    refine own_callV X91 hx hZ hown (ow_74 hw) (ow_75 hw) (ow_77 hw) (ow_76 hw) (ow_62 hw) (ow_78 hw) (by decide) A76 (rm_ch0 l Z a0 hw a76 a38 h76 n0 z89 F76_receiving) eh91 (W := 0) (by decide) (by decide) opd__Lcom_example_binlease_binlease_model_Job__Lcom_example_binlease_binlease_model_Server_ rfl (rest := []) rfl (hb hby at_192) (Nat.le_of_eq rfl) (by rw [hml]; rfl) (by decide) (by decide) (pc' := 195) rfl ?_
    intro v92 T92 L92 X92 q92
    obtain ⟨rfl, Nq92, eh92⟩ := q92
    have N92 := Fr.app N91 Nq92
    show own_G p e below _ (T92.setTop (mkF m 195 #[.val (.int u0), .val (.int u1), .val (.int u2), .val (.long u3), .second, .val (.long u4), .second, .val (.long u5), .second, .val (.int (u0 &&& (3 : Int32))), .val (.long (u5 &&& (9223372036854775807 : Int64))), .second, .val (.ref a1), .val (.ref a14), .val (.ref a38), .val (.ref a76), .val (.null)] [(.null)]))
    refine own_aload X92 hx (hb hby at_195) rfl rfl (pc' := 197) rfl ?_
    refine own_acmpF X92 hx (hb hby at_197) rfl rfl (by simp [XT.acmp]) (pc' := 200) rfl ?_
    refine own_iconst X92 hx (hb hby at_200) (z := (1 : Int32)) rfl (pc' := 201) rfl ?_
    refine own_goto X92 hx (hb hby at_201) (by decide) (pc' := 205) rfl ?_
    exact own_retZW X92 hx hSi (by rw [eh92]; exact (Nat.le_trans (Nat.le_trans (Nat.le_trans (Nat.le_trans hki E47.1) (Nat.le_of_eq (Wr.size W58).symm)) K59.1) E76.1)) hret hlk (Or.inr rfl) (hb hby at_205) ⟨rfl, N92⟩ (by decide) (by decide)
  · refine own_ifT X88 hx (hb hby at_85) (feq c90).2 (by decide) (pc' := 98) rfl ?_
    refine own_iload X88 hx (hb hby at_98) rfl (pc' := 100) rfl ?_
    refine own_iconst X88 hx (hb hby at_100) (z := (1 : Int32)) rfl (pc' := 101) rfl ?_
    by_cases c93 : (u0 &&& (3 : Int32)) = (1 : Int32)
    · refine own_icmpF X88 hx (hb hby at_101) (teq c93).2 (pc' := 104) rfl ?_
      refine own_aload X88 hx (hb hby at_104) rfl rfl (pc' := 106) rfl ?_
      refine own_aload X88 hx (hb hby at_106) rfl rfl (pc' := 108) rfl ?_
      refine own_callV X88 hx hZ hown (ow_79 hw) (ow_80 hw) (ow_82 hw) (ow_81 hw) (ow_62 hw) (ow_83 hw) (by decide) A76 (rm_op l Z a0 hw a76 a1 .null h76 n0 z89 A76 F76_receiving ge_a76) eh88 (W := 0) (by decide) (by decide) opd__Lcom_example_binlease_binlease_model_Server__V rfl (rest := []) rfl (hb hby at_108) (Nat.le_of_eq rfl) (by rw [hml]; rfl) (by decide) (by decide) (pc' := 111) rfl ?_
      intro v94 T94 L94 X94 q94
      obtain ⟨rfl, Nq94, K94, p94_0⟩ := q94
      have N94 := Fr.app N88 Nq94
      show own_G p e below _ (T94.setTop (mkF m 111 #[.val (.int u0), .val (.int u1), .val (.int u2), .val (.long u3), .second, .val (.long u4), .second, .val (.long u5), .second, .val (.int (u0 &&& (3 : Int32))), .val (.long (u5 &&& (9223372036854775807 : Int64))), .second, .val (.ref a1), .val (.ref a14), .val (.ref a38), .val (.ref a76), .val (.null)] []))
      refine own_aload X94 hx (hb hby at_111) rfl rfl (pc' := 113) rfl ?_
      refine own_aload X94 hx (hb hby at_113) rfl rfl (pc' := 115) rfl ?_
      have f96 : Exa Z T94.heap a76 "com/example/binlease/binlease/policy/NextFit" := (A76.keep K94)
      have z97 : n0 ≤ T94.heap.size := (Nat.le_trans z89 K94.1)
      refine own_callV X94 hx hZ hown (ow_67 hw) (ow_68 hw) (ow_70 hw) (ow_69 hw) (ow_62 hw) (ow_71 hw) (by decide) f96 (rm_cl1 l Z a0 hw a76 a1 T94.heap n0 z97 f96 p94_0 ge_a76) rfl (W := 0) (by decide) (by decide) opd__Lcom_example_binlease_binlease_model_Server__V rfl (rest := []) rfl (hb hby at_115) (Nat.le_of_eq rfl) (by rw [hml]; rfl) (by decide) (by decide) (pc' := 118) rfl ?_
      intro v95 T95 L95 X95 q95
      obtain ⟨rfl, Nq95, K95, p95_0⟩ := q95
      have N95 := Fr.app N94 Nq95
      show own_G p e below _ (T95.setTop (mkF m 118 #[.val (.int u0), .val (.int u1), .val (.int u2), .val (.long u3), .second, .val (.long u4), .second, .val (.long u5), .second, .val (.int (u0 &&& (3 : Int32))), .val (.long (u5 &&& (9223372036854775807 : Int64))), .second, .val (.ref a1), .val (.ref a14), .val (.ref a38), .val (.ref a76), .val (.null)] []))
      refine own_goto X95 hx (hb hby at_118) (by decide) (pc' := 188) rfl ?_
      refine own_aload X95 hx (hb hby at_188) rfl rfl (pc' := 190) rfl ?_
      refine own_aload X95 hx (hb hby at_190) rfl rfl (pc' := 192) rfl ?_
      have z99 : n0 ≤ T95.heap.size := (Nat.le_trans z97 K95.1)
      have f100 : Exa Z T95.heap a76 "com/example/binlease/binlease/policy/NextFit" := (f96.keep K95)
      refine own_callV X95 hx hZ hown (ow_74 hw) (ow_75 hw) (ow_77 hw) (ow_76 hw) (ow_62 hw) (ow_78 hw) (by decide) f100 (rm_ch0 l Z a0 hw a76 a38 T95.heap n0 z99 p95_0) rfl (W := 0) (by decide) (by decide) opd__Lcom_example_binlease_binlease_model_Job__Lcom_example_binlease_binlease_model_Server_ rfl (rest := []) rfl (hb hby at_192) (Nat.le_of_eq rfl) (by rw [hml]; rfl) (by decide) (by decide) (pc' := 195) rfl ?_
      intro v98 T98 L98 X98 q98
      obtain ⟨rfl, Nq98, eh98⟩ := q98
      have N98 := Fr.app N95 Nq98
      show own_G p e below _ (T98.setTop (mkF m 195 #[.val (.int u0), .val (.int u1), .val (.int u2), .val (.long u3), .second, .val (.long u4), .second, .val (.long u5), .second, .val (.int (u0 &&& (3 : Int32))), .val (.long (u5 &&& (9223372036854775807 : Int64))), .second, .val (.ref a1), .val (.ref a14), .val (.ref a38), .val (.ref a76), .val (.null)] [(.null)]))
      refine own_aload X98 hx (hb hby at_195) rfl rfl (pc' := 197) rfl ?_
      refine own_acmpF X98 hx (hb hby at_197) rfl rfl (by simp [XT.acmp]) (pc' := 200) rfl ?_
      refine own_iconst X98 hx (hb hby at_200) (z := (1 : Int32)) rfl (pc' := 201) rfl ?_
      refine own_goto X98 hx (hb hby at_201) (by decide) (pc' := 205) rfl ?_
      exact own_retZW X98 hx hSi (by rw [eh98]; exact (Nat.le_trans (Nat.le_trans (Nat.le_trans (Nat.le_trans (Nat.le_trans (Nat.le_trans hki E47.1) (Nat.le_of_eq (Wr.size W58).symm)) K59.1) E76.1) K94.1) K95.1)) hret hlk (Or.inr rfl) (hb hby at_205) ⟨rfl, N98⟩ (by decide) (by decide)
    · refine own_icmpT X88 hx (hb hby at_101) (feq c93).2 (by decide) (pc' := 121) rfl ?_
      refine own_iload X88 hx (hb hby at_121) rfl (pc' := 123) rfl ?_
      refine own_iconst X88 hx (hb hby at_123) (z := (2 : Int32)) rfl (pc' := 124) rfl ?_
      by_cases c101 : (u0 &&& (3 : Int32)) = (2 : Int32)
      · refine own_icmpF X88 hx (hb hby at_124) (teq c101).2 (pc' := 127) rfl ?_
        refine own_aload X88 hx (hb hby at_127) rfl rfl (pc' := 129) rfl ?_
        refine own_aload X88 hx (hb hby at_129) rfl rfl (pc' := 131) rfl ?_
        refine own_callV X88 hx hZ hown (ow_79 hw) (ow_80 hw) (ow_82 hw) (ow_81 hw) (ow_62 hw) (ow_83 hw) (by decide) A76 (rm_op l Z a0 hw a76 a1 .null h76 n0 z89 A76 F76_receiving ge_a76) eh88 (W := 0) (by decide) (by decide) opd__Lcom_example_binlease_binlease_model_Server__V rfl (rest := []) rfl (hb hby at_131) (Nat.le_of_eq rfl) (by rw [hml]; rfl) (by decide) (by decide) (pc' := 134) rfl ?_
        intro v102 T102 L102 X102 q102
        obtain ⟨rfl, Nq102, K102, p102_0⟩ := q102
        have N102 := Fr.app N88 Nq102
        show own_G p e below _ (T102.setTop (mkF m 134 #[.val (.int u0), .val (.int u1), .val (.int u2), .val (.long u3), .second, .val (.long u4), .second, .val (.long u5), .second, .val (.int (u0 &&& (3 : Int32))), .val (.long (u5 &&& (9223372036854775807 : Int64))), .second, .val (.ref a1), .val (.ref a14), .val (.ref a38), .val (.ref a76), .val (.null)] []))
        refine own_aload X102 hx (hb hby at_134) rfl rfl (pc' := 136) rfl ?_
        refine own_aload X102 hx (hb hby at_136) rfl rfl (pc' := 138) rfl ?_
        have z104 : n0 ≤ T102.heap.size := (Nat.le_trans z89 K102.1)
        have f105 : Exa Z T102.heap a76 "com/example/binlease/binlease/policy/NextFit" := (A76.keep K102)
        refine own_callV X102 hx hZ hown (ow_67 hw) (ow_68 hw) (ow_70 hw) (ow_69 hw) (ow_62 hw) (ow_71 hw) (by decide) f105 (rm_cl2 l Z a0 hw a76 a14 a1 T102.heap n0 z104 p102_0 (Nat.ne_of_gt lt_a1_a14)) rfl (W := 0) (by decide) (by decide) opd__Lcom_example_binlease_binlease_model_Server__V rfl (rest := []) rfl (hb hby at_138) (Nat.le_of_eq rfl) (by rw [hml]; rfl) (by decide) (by decide) (pc' := 141) rfl ?_
        intro v103 T103 L103 X103 q103
        obtain ⟨rfl, Nq103, eh103⟩ := q103
        have N103 := Fr.app N102 Nq103
        show own_G p e below _ (T103.setTop (mkF m 141 #[.val (.int u0), .val (.int u1), .val (.int u2), .val (.long u3), .second, .val (.long u4), .second, .val (.long u5), .second, .val (.int (u0 &&& (3 : Int32))), .val (.long (u5 &&& (9223372036854775807 : Int64))), .second, .val (.ref a1), .val (.ref a14), .val (.ref a38), .val (.ref a76), .val (.null)] []))
        refine own_lload X103 hx (hb hby at_141) rfl (pc' := 143) rfl ?_
        refine own_lloadN X103 hx (hb hby at_143) rfl (pc' := 144) rfl ?_
        refine own_lcmp X103 hx (hb hby at_144) (pc' := 145) rfl ?_
        by_cases c106 : u3 < (u5 &&& (9223372036854775807 : Int64))
        · refine own_ifT X103 hx (hb hby at_145) (own_ltL c106).2.2.1 (by decide) (pc' := 188) rfl ?_
          refine own_aload X103 hx (hb hby at_188) rfl rfl (pc' := 190) rfl ?_
          refine own_aload X103 hx (hb hby at_190) rfl rfl (pc' := 192) rfl ?_
          have f108 : Exa Z T102.heap a1 "com/example/binlease/binlease/model/Server" := ((f78.ext E76).keep K102)
          have f109 : Exa Z T102.heap a38 "com/example/binlease/binlease/model/Job" := ((f82.ext E76).keep K102)
          have f110 : Fld Z T102.heap a1 "com/example/binlease/binlease/model/Server" "capacity" "[J" (.ref rc_5) := (((((((((((p5_2.ext E14).ext E18).other W24 (Or.inl (Nat.ne_of_lt lt_a1_a18))).keep K25 (ninS (Nat.ne_of_lt lt_a1_a14) nin0)).ext E38).ext E46).ext E47).other W58 (Or.inl (Nat.ne_of_lt lt_a1_a47))).keep K59 (ninS (Nat.ne_of_lt lt_a1_a38) nin0)).ext E76).keep K102 (ninS (Nat.ne_of_lt lt_a1_a76) nin0))
          have f111 : Fld Z T102.heap a1 "com/example/binlease/binlease/model/Server" "load" "[J" (.ref rd_5) := (((((((((((p5_3.ext E14).ext E18).other W24 (Or.inl (Nat.ne_of_lt lt_a1_a18))).keep K25 (ninS (Nat.ne_of_lt lt_a1_a14) nin0)).ext E38).ext E46).ext E47).other W58 (Or.inl (Nat.ne_of_lt lt_a1_a47))).keep K59 (ninS (Nat.ne_of_lt lt_a1_a38) nin0)).ext E76).keep K102 (ninS (Nat.ne_of_lt lt_a1_a76) nin0))
          have f112 : Fld Z T102.heap a38 "com/example/binlease/binlease/model/Job" "sizes" "[J" (.ref rc_59) := ((p59_4.ext E76).keep K102 (ninS (Nat.ne_of_lt lt_a38_a76) nin0))
          have f113 : own_AJ Z T102.heap rc_5 .long (1 : Int32) (own_LJ [u3]) := (((((((((((p5_6.ext E14).ext E18).other W24 (Nat.ne_of_lt lt_rc_5_a18)).keep K25 (ninS (Nat.ne_of_lt lt_rc_5_a14) nin0)).ext E38).ext E46).ext E47).other W58 (Nat.ne_of_lt lt_rc_5_a47)).keep K59 (ninS (Nat.ne_of_lt lt_rc_5_a38) nin0)).ext E76).keep K102 (ninS (Nat.ne_of_lt lt_rc_5_a76) nin0))
          have f114 : own_AJ Z T102.heap rd_5 .long (1 : Int32) (own_LJ [(0 : Int64)]) := (((((((((((p5_8.ext E14).ext E18).other W24 (Nat.ne_of_lt lt_rd_5_a18)).keep K25 (ninS (Nat.ne_of_lt lt_rd_5_a14) nin0)).ext E38).ext E46).ext E47).other W58 (Nat.ne_of_lt lt_rd_5_a47)).keep K59 (ninS (Nat.ne_of_lt lt_rd_5_a38) nin0)).ext E76).keep K102 (ninS (Nat.ne_of_lt lt_rd_5_a76) nin0))
          have f115 : own_AJ Z T102.heap rc_59 .long (1 : Int32) (own_LJ [(u5 &&& (9223372036854775807 : Int64))]) := ((p59_6.ext E76).keep K102 (ninS (Nat.ne_of_lt lt_rc_59_a76) nin0))
          refine own_callV X103 hx hZ hown (ow_74 hw) (ow_75 hw) (ow_77 hw) (ow_76 hw) (ow_62 hw) (ow_78 hw) (by decide) f105 (rm_chN l Z a0 hw a76 a38 a1 rc_5 rd_5 rc_59 u3 (0 : Int64) (u5 &&& (9223372036854775807 : Int64)) T102.heap n0 z104 p102_0 f108 f109 f110 f111 f112 f113 f114 f115 (by rw [own_s0]; exact c106)) eh103 (W := 0) (by decide) (by decide) opd__Lcom_example_binlease_binlease_model_Job__Lcom_example_binlease_binlease_model_Server_ rfl (rest := []) rfl (hb hby at_192) (Nat.le_of_eq rfl) (by rw [hml]; rfl) (by decide) (by decide) (pc' := 195) rfl ?_
          intro v107 T107 L107 X107 q107
          obtain ⟨rfl, Nq107, eh107⟩ := q107
          have N107 := Fr.app N103 Nq107
          show own_G p e below _ (T107.setTop (mkF m 195 #[.val (.int u0), .val (.int u1), .val (.int u2), .val (.long u3), .second, .val (.long u4), .second, .val (.long u5), .second, .val (.int (u0 &&& (3 : Int32))), .val (.long (u5 &&& (9223372036854775807 : Int64))), .second, .val (.ref a1), .val (.ref a14), .val (.ref a38), .val (.ref a76), .val (.null)] [(.null)]))
          refine own_aload X107 hx (hb hby at_195) rfl rfl (pc' := 197) rfl ?_
          refine own_acmpF X107 hx (hb hby at_197) rfl rfl (by simp [XT.acmp]) (pc' := 200) rfl ?_
          refine own_iconst X107 hx (hb hby at_200) (z := (1 : Int32)) rfl (pc' := 201) rfl ?_
          refine own_goto X107 hx (hb hby at_201) (by decide) (pc' := 205) rfl ?_
          exact own_retZW X107 hx hSi (by rw [eh107]; exact (Nat.le_trans (Nat.le_trans (Nat.le_trans (Nat.le_trans (Nat.le_trans hki E47.1) (Nat.le_of_eq (Wr.size W58).symm)) K59.1) E76.1) K102.1)) hret hlk (Or.inr rfl) (hb hby at_205) ⟨rfl, N107⟩ (by decide) (by decide)
        · refine own_ifF X103 hx (hb hby at_145) (own_geL c106).2.2.1 (pc' := 148) rfl ?_
          refine own_aload X103 hx (hb hby at_148) rfl rfl (pc' := 150) rfl ?_
          refine own_astore X103 hx (hb hby at_150) rfl (l' := #[.val (.int u0), .val (.int u1), .val (.int u2), .val (.long u3), .second, .val (.long u4), .second, .val (.long u5), .second, .val (.int (u0 &&& (3 : Int32))), .val (.long (u5 &&& (9223372036854775807 : Int64))), .second, .val (.ref a1), .val (.ref a14), .val (.ref a38), .val (.ref a76), .val (.ref a1)]) rfl (pc' := 152) rfl ?_
          refine own_goto X103 hx (hb hby at_152) (by decide) (pc' := 188) rfl ?_
          refine own_aload X103 hx (hb hby at_188) rfl rfl (pc' := 190) rfl ?_
          refine own_aload X103 hx (hb hby at_190) rfl rfl (pc' := 192) rfl ?_
          have f117 : Exa Z T102.heap a1 "com/example/binlease/binlease/model/Server" := ((f78.ext E76).keep K102)
          have f118 : Exa Z T102.heap a38 "com/example/binlease/binlease/model/Job" := ((f82.ext E76).keep K102)
          have f119 : Fld Z T102.heap a1 "com/example/binlease/binlease/model/Server" "capacity" "[J" (.ref rc_5) := (((((((((((p5_2.ext E14).ext E18).other W24 (Or.inl (Nat.ne_of_lt lt_a1_a18))).keep K25 (ninS (Nat.ne_of_lt lt_a1_a14) nin0)).ext E38).ext E46).ext E47).other W58 (Or.inl (Nat.ne_of_lt lt_a1_a47))).keep K59 (ninS (Nat.ne_of_lt lt_a1_a38) nin0)).ext E76).keep K102 (ninS (Nat.ne_of_lt lt_a1_a76) nin0))
          have f120 : Fld Z T102.heap a1 "com/example/binlease/binlease/model/Server" "load" "[J" (.ref rd_5) := (((((((((((p5_3.ext E14).ext E18).other W24 (Or.inl (Nat.ne_of_lt lt_a1_a18))).keep K25 (ninS (Nat.ne_of_lt lt_a1_a14) nin0)).ext E38).ext E46).ext E47).other W58 (Or.inl (Nat.ne_of_lt lt_a1_a47))).keep K59 (ninS (Nat.ne_of_lt lt_a1_a38) nin0)).ext E76).keep K102 (ninS (Nat.ne_of_lt lt_a1_a76) nin0))
          have f121 : Fld Z T102.heap a38 "com/example/binlease/binlease/model/Job" "sizes" "[J" (.ref rc_59) := ((p59_4.ext E76).keep K102 (ninS (Nat.ne_of_lt lt_a38_a76) nin0))
          have f122 : own_AJ Z T102.heap rc_5 .long (1 : Int32) (own_LJ [u3]) := (((((((((((p5_6.ext E14).ext E18).other W24 (Nat.ne_of_lt lt_rc_5_a18)).keep K25 (ninS (Nat.ne_of_lt lt_rc_5_a14) nin0)).ext E38).ext E46).ext E47).other W58 (Nat.ne_of_lt lt_rc_5_a47)).keep K59 (ninS (Nat.ne_of_lt lt_rc_5_a38) nin0)).ext E76).keep K102 (ninS (Nat.ne_of_lt lt_rc_5_a76) nin0))
          have f123 : own_AJ Z T102.heap rd_5 .long (1 : Int32) (own_LJ [(0 : Int64)]) := (((((((((((p5_8.ext E14).ext E18).other W24 (Nat.ne_of_lt lt_rd_5_a18)).keep K25 (ninS (Nat.ne_of_lt lt_rd_5_a14) nin0)).ext E38).ext E46).ext E47).other W58 (Nat.ne_of_lt lt_rd_5_a47)).keep K59 (ninS (Nat.ne_of_lt lt_rd_5_a38) nin0)).ext E76).keep K102 (ninS (Nat.ne_of_lt lt_rd_5_a76) nin0))
          have f124 : own_AJ Z T102.heap rc_59 .long (1 : Int32) (own_LJ [(u5 &&& (9223372036854775807 : Int64))]) := ((p59_6.ext E76).keep K102 (ninS (Nat.ne_of_lt lt_rc_59_a76) nin0))
          refine own_callV X103 hx hZ hown (ow_74 hw) (ow_75 hw) (ow_77 hw) (ow_76 hw) (ow_62 hw) (ow_78 hw) (by decide) f105 (rm_chY l Z a0 hw a76 a38 a1 rc_5 rd_5 rc_59 u3 (0 : Int64) (u5 &&& (9223372036854775807 : Int64)) T102.heap n0 z104 p102_0 f117 f118 f119 f120 f121 f122 f123 f124 (by rw [own_s0]; exact c106)) eh103 (W := 0) (by decide) (by decide) opd__Lcom_example_binlease_binlease_model_Job__Lcom_example_binlease_binlease_model_Server_ rfl (rest := []) rfl (hb hby at_192) (Nat.le_of_eq rfl) (by rw [hml]; rfl) (by decide) (by decide) (pc' := 195) rfl ?_
          intro v116 T116 L116 X116 q116
          obtain ⟨rfl, Nq116, eh116⟩ := q116
          have N116 := Fr.app N103 Nq116
          show own_G p e below _ (T116.setTop (mkF m 195 #[.val (.int u0), .val (.int u1), .val (.int u2), .val (.long u3), .second, .val (.long u4), .second, .val (.long u5), .second, .val (.int (u0 &&& (3 : Int32))), .val (.long (u5 &&& (9223372036854775807 : Int64))), .second, .val (.ref a1), .val (.ref a14), .val (.ref a38), .val (.ref a76), .val (.ref a1)] [(.ref a1)]))
          refine own_aload X116 hx (hb hby at_195) rfl rfl (pc' := 197) rfl ?_
          refine own_acmpF X116 hx (hb hby at_197) rfl rfl (by simp [XT.acmp]) (pc' := 200) rfl ?_
          refine own_iconst X116 hx (hb hby at_200) (z := (1 : Int32)) rfl (pc' := 201) rfl ?_
          refine own_goto X116 hx (hb hby at_201) (by decide) (pc' := 205) rfl ?_
          exact own_retZW X116 hx hSi (by rw [eh116]; exact (Nat.le_trans (Nat.le_trans (Nat.le_trans (Nat.le_trans (Nat.le_trans hki E47.1) (Nat.le_of_eq (Wr.size W58).symm)) K59.1) E76.1) K102.1)) hret hlk (Or.inr rfl) (hb hby at_205) ⟨rfl, N116⟩ (by decide) (by decide)
      · refine own_icmpT X88 hx (hb hby at_124) (feq c101).2 (by decide) (pc' := 155) rfl ?_
        refine own_aload X88 hx (hb hby at_155) rfl rfl (pc' := 157) rfl ?_
        refine own_aload X88 hx (hb hby at_157) rfl rfl (pc' := 159) rfl ?_
        refine own_callV X88 hx hZ hown (ow_79 hw) (ow_80 hw) (ow_82 hw) (ow_81 hw) (ow_62 hw) (ow_83 hw) (by decide) A76 (rm_op l Z a0 hw a76 a1 .null h76 n0 z89 A76 F76_receiving ge_a76) eh88 (W := 0) (by decide) (by decide) opd__Lcom_example_binlease_binlease_model_Server__V rfl (rest := []) rfl (hb hby at_159) (Nat.le_of_eq rfl) (by rw [hml]; rfl) (by decide) (by decide) (pc' := 162) rfl ?_
        intro v125 T125 L125 X125 q125
        obtain ⟨rfl, Nq125, K125, p125_0⟩ := q125
        have N125 := Fr.app N88 Nq125
        show own_G p e below _ (T125.setTop (mkF m 162 #[.val (.int u0), .val (.int u1), .val (.int u2), .val (.long u3), .second, .val (.long u4), .second, .val (.long u5), .second, .val (.int (u0 &&& (3 : Int32))), .val (.long (u5 &&& (9223372036854775807 : Int64))), .second, .val (.ref a1), .val (.ref a14), .val (.ref a38), .val (.ref a76), .val (.null)] []))
        refine own_aload X125 hx (hb hby at_162) rfl rfl (pc' := 164) rfl ?_
        refine own_aload X125 hx (hb hby at_164) rfl rfl (pc' := 166) rfl ?_
        have f127 : Exa Z T125.heap a76 "com/example/binlease/binlease/policy/NextFit" := (A76.keep K125)
        have z128 : n0 ≤ T125.heap.size := (Nat.le_trans z89 K125.1)
        refine own_callV X125 hx hZ hown (ow_79 hw) (ow_80 hw) (ow_82 hw) (ow_81 hw) (ow_62 hw) (ow_83 hw) (by decide) f127 (rm_op l Z a0 hw a76 a14 (.ref a1) T125.heap n0 z128 f127 p125_0 ge_a76) rfl (W := 0) (by decide) (by decide) opd__Lcom_example_binlease_binlease_model_Server__V rfl (rest := []) rfl (hb hby at_166) (Nat.le_of_eq rfl) (by rw [hml]; rfl) (by decide) (by decide) (pc' := 169) rfl ?_
        intro v126 T126 L126 X126 q126
        obtain ⟨rfl, Nq126, K126, p126_0⟩ := q126
        have N126 := Fr.app N125 Nq126
        show own_G p e below _ (T126.setTop (mkF m 169 #[.val (.int u0), .val (.int u1), .val (.int u2), .val (.long u3), .second, .val (.long u4), .second, .val (.long u5), .second, .val (.int (u0 &&& (3 : Int32))), .val (.long (u5 &&& (9223372036854775807 : Int64))), .second, .val (.ref a1), .val (.ref a14), .val (.ref a38), .val (.ref a76), .val (.null)] []))
        refine own_aload X126 hx (hb hby at_169) rfl rfl (pc' := 171) rfl ?_
        refine own_aload X126 hx (hb hby at_171) rfl rfl (pc' := 173) rfl ?_
        have z130 : n0 ≤ T126.heap.size := (Nat.le_trans z128 K126.1)
        have f131 : Exa Z T126.heap a76 "com/example/binlease/binlease/policy/NextFit" := (f127.keep K126)
        refine own_callV X126 hx hZ hown (ow_67 hw) (ow_68 hw) (ow_70 hw) (ow_69 hw) (ow_62 hw) (ow_71 hw) (by decide) f131 (rm_cl2 l Z a0 hw a76 a1 a14 T126.heap n0 z130 p126_0 (Nat.ne_of_lt lt_a1_a14)) rfl (W := 0) (by decide) (by decide) opd__Lcom_example_binlease_binlease_model_Server__V rfl (rest := []) rfl (hb hby at_173) (Nat.le_of_eq rfl) (by rw [hml]; rfl) (by decide) (by decide) (pc' := 176) rfl ?_
        intro v129 T129 L129 X129 q129
        obtain ⟨rfl, Nq129, eh129⟩ := q129
        have N129 := Fr.app N126 Nq129
        show own_G p e below _ (T129.setTop (mkF m 176 #[.val (.int u0), .val (.int u1), .val (.int u2), .val (.long u3), .second, .val (.long u4), .second, .val (.long u5), .second, .val (.int (u0 &&& (3 : Int32))), .val (.long (u5 &&& (9223372036854775807 : Int64))), .second, .val (.ref a1), .val (.ref a14), .val (.ref a38), .val (.ref a76), .val (.null)] []))
        refine own_lload X129 hx (hb hby at_176) rfl (pc' := 178) rfl ?_
        refine own_lload X129 hx (hb hby at_178) rfl (pc' := 180) rfl ?_
        refine own_lcmp X129 hx (hb hby at_180) (pc' := 181) rfl ?_
        by_cases c132 : u4 < (u5 &&& (9223372036854775807 : Int64))
        · refine own_ifT X129 hx (hb hby at_181) (own_ltL c132).2.2.1 (by decide) (pc' := 188) rfl ?_
          refine own_aload X129 hx (hb hby at_188) rfl rfl (pc' := 190) rfl ?_
          refine own_aload X129 hx (hb hby at_190) rfl rfl (pc' := 192) rfl ?_
          have f134 : Exa Z T126.heap a14 "com/example/binlease/binlease/model/Server" := (((f79.ext E76).keep K125).keep K126)
          have f135 : Exa Z T126.heap a38 "com/example/binlease/binlease/model/Job" := (((f82.ext E76).keep K125).keep K126)
          have f136 : Fld Z T126.heap a14 "com/example/binlease/binlease/model/Server" "capacity" "[J" (.ref rc_25) := ((((((((p25_2.ext E38).ext E46).ext E47).other W58 (Or.inl (Nat.ne_of_lt lt_a14_a47))).keep K59 (ninS (Nat.ne_of_lt lt_a14_a38) nin0)).ext E76).keep K125 (ninS (Nat.ne_of_lt lt_a14_a76) nin0)).keep K126 (ninS (Nat.ne_of_lt lt_a14_a76) nin0))
          have f137 : Fld Z T126.heap a14 "com/example/binlease/binlease/model/Server" "load" "[J" (.ref rd_25) := ((((((((p25_3.ext E38).ext E46).ext E47).other W58 (Or.inl (Nat.ne_of_lt lt_a14_a47))).keep K59 (ninS (Nat.ne_of_lt lt_a14_a38) nin0)).ext E76).keep K125 (ninS (Nat.ne_of_lt lt_a14_a76) nin0)).keep K126 (ninS (Nat.ne_of_lt lt_a14_a76) nin0))
          have f138 : Fld Z T126.heap a38 "com/example/binlease/binlease/model/Job" "sizes" "[J" (.ref rc_59) := (((p59_4.ext E76).keep K125 (ninS (Nat.ne_of_lt lt_a38_a76) nin0)).keep K126 (ninS (Nat.ne_of_lt lt_a38_a76) nin0))
          have f139 : own_AJ Z T126.heap rc_25 .long (1 : Int32) (own_LJ [u4]) := ((((((((p25_6.ext E38).ext E46).ext E47).other W58 (Nat.ne_of_lt lt_rc_25_a47)).keep K59 (ninS (Nat.ne_of_lt lt_rc_25_a38) nin0)).ext E76).keep K125 (ninS (Nat.ne_of_lt lt_rc_25_a76) nin0)).keep K126 (ninS (Nat.ne_of_lt lt_rc_25_a76) nin0))
          have f140 : own_AJ Z T126.heap rd_25 .long (1 : Int32) (own_LJ [(0 : Int64)]) := ((((((((p25_8.ext E38).ext E46).ext E47).other W58 (Nat.ne_of_lt lt_rd_25_a47)).keep K59 (ninS (Nat.ne_of_lt lt_rd_25_a38) nin0)).ext E76).keep K125 (ninS (Nat.ne_of_lt lt_rd_25_a76) nin0)).keep K126 (ninS (Nat.ne_of_lt lt_rd_25_a76) nin0))
          have f141 : own_AJ Z T126.heap rc_59 .long (1 : Int32) (own_LJ [(u5 &&& (9223372036854775807 : Int64))]) := (((p59_6.ext E76).keep K125 (ninS (Nat.ne_of_lt lt_rc_59_a76) nin0)).keep K126 (ninS (Nat.ne_of_lt lt_rc_59_a76) nin0))
          refine own_callV X129 hx hZ hown (ow_74 hw) (ow_75 hw) (ow_77 hw) (ow_76 hw) (ow_62 hw) (ow_78 hw) (by decide) f131 (rm_chN l Z a0 hw a76 a38 a14 rc_25 rd_25 rc_59 u4 (0 : Int64) (u5 &&& (9223372036854775807 : Int64)) T126.heap n0 z130 p126_0 f134 f135 f136 f137 f138 f139 f140 f141 (by rw [own_s0]; exact c132)) eh129 (W := 0) (by decide) (by decide) opd__Lcom_example_binlease_binlease_model_Job__Lcom_example_binlease_binlease_model_Server_ rfl (rest := []) rfl (hb hby at_192) (Nat.le_of_eq rfl) (by rw [hml]; rfl) (by decide) (by decide) (pc' := 195) rfl ?_
          intro v133 T133 L133 X133 q133
          obtain ⟨rfl, Nq133, eh133⟩ := q133
          have N133 := Fr.app N129 Nq133
          show own_G p e below _ (T133.setTop (mkF m 195 #[.val (.int u0), .val (.int u1), .val (.int u2), .val (.long u3), .second, .val (.long u4), .second, .val (.long u5), .second, .val (.int (u0 &&& (3 : Int32))), .val (.long (u5 &&& (9223372036854775807 : Int64))), .second, .val (.ref a1), .val (.ref a14), .val (.ref a38), .val (.ref a76), .val (.null)] [(.null)]))
          refine own_aload X133 hx (hb hby at_195) rfl rfl (pc' := 197) rfl ?_
          refine own_acmpF X133 hx (hb hby at_197) rfl rfl (by simp [XT.acmp]) (pc' := 200) rfl ?_
          refine own_iconst X133 hx (hb hby at_200) (z := (1 : Int32)) rfl (pc' := 201) rfl ?_
          refine own_goto X133 hx (hb hby at_201) (by decide) (pc' := 205) rfl ?_
          exact own_retZW X133 hx hSi (by rw [eh133]; exact (Nat.le_trans (Nat.le_trans (Nat.le_trans (Nat.le_trans (Nat.le_trans (Nat.le_trans hki E47.1) (Nat.le_of_eq (Wr.size W58).symm)) K59.1) E76.1) K125.1) K126.1)) hret hlk (Or.inr rfl) (hb hby at_205) ⟨rfl, N133⟩ (by decide) (by decide)
        · refine own_ifF X129 hx (hb hby at_181) (own_geL c132).2.2.1 (pc' := 184) rfl ?_
          refine own_aload X129 hx (hb hby at_184) rfl rfl (pc' := 186) rfl ?_
          refine own_astore X129 hx (hb hby at_186) rfl (l' := #[.val (.int u0), .val (.int u1), .val (.int u2), .val (.long u3), .second, .val (.long u4), .second, .val (.long u5), .second, .val (.int (u0 &&& (3 : Int32))), .val (.long (u5 &&& (9223372036854775807 : Int64))), .second, .val (.ref a1), .val (.ref a14), .val (.ref a38), .val (.ref a76), .val (.ref a14)]) rfl (pc' := 188) rfl ?_
          refine own_aload X129 hx (hb hby at_188) rfl rfl (pc' := 190) rfl ?_
          refine own_aload X129 hx (hb hby at_190) rfl rfl (pc' := 192) rfl ?_
          have f143 : Exa Z T126.heap a14 "com/example/binlease/binlease/model/Server" := (((f79.ext E76).keep K125).keep K126)
          have f144 : Exa Z T126.heap a38 "com/example/binlease/binlease/model/Job" := (((f82.ext E76).keep K125).keep K126)
          have f145 : Fld Z T126.heap a14 "com/example/binlease/binlease/model/Server" "capacity" "[J" (.ref rc_25) := ((((((((p25_2.ext E38).ext E46).ext E47).other W58 (Or.inl (Nat.ne_of_lt lt_a14_a47))).keep K59 (ninS (Nat.ne_of_lt lt_a14_a38) nin0)).ext E76).keep K125 (ninS (Nat.ne_of_lt lt_a14_a76) nin0)).keep K126 (ninS (Nat.ne_of_lt lt_a14_a76) nin0))
          have f146 : Fld Z T126.heap a14 "com/example/binlease/binlease/model/Server" "load" "[J" (.ref rd_25) := ((((((((p25_3.ext E38).ext E46).ext E47).other W58 (Or.inl (Nat.ne_of_lt lt_a14_a47))).keep K59 (ninS (Nat.ne_of_lt lt_a14_a38) nin0)).ext E76).keep K125 (ninS (Nat.ne_of_lt lt_a14_a76) nin0)).keep K126 (ninS (Nat.ne_of_lt lt_a14_a76) nin0))
          have f147 : Fld Z T126.heap a38 "com/example/binlease/binlease/model/Job" "sizes" "[J" (.ref rc_59) := (((p59_4.ext E76).keep K125 (ninS (Nat.ne_of_lt lt_a38_a76) nin0)).keep K126 (ninS (Nat.ne_of_lt lt_a38_a76) nin0))
          have f148 : own_AJ Z T126.heap rc_25 .long (1 : Int32) (own_LJ [u4]) := ((((((((p25_6.ext E38).ext E46).ext E47).other W58 (Nat.ne_of_lt lt_rc_25_a47)).keep K59 (ninS (Nat.ne_of_lt lt_rc_25_a38) nin0)).ext E76).keep K125 (ninS (Nat.ne_of_lt lt_rc_25_a76) nin0)).keep K126 (ninS (Nat.ne_of_lt lt_rc_25_a76) nin0))
          have f149 : own_AJ Z T126.heap rd_25 .long (1 : Int32) (own_LJ [(0 : Int64)]) := ((((((((p25_8.ext E38).ext E46).ext E47).other W58 (Nat.ne_of_lt lt_rd_25_a47)).keep K59 (ninS (Nat.ne_of_lt lt_rd_25_a38) nin0)).ext E76).keep K125 (ninS (Nat.ne_of_lt lt_rd_25_a76) nin0)).keep K126 (ninS (Nat.ne_of_lt lt_rd_25_a76) nin0))
          have f150 : own_AJ Z T126.heap rc_59 .long (1 : Int32) (own_LJ [(u5 &&& (9223372036854775807 : Int64))]) := (((p59_6.ext E76).keep K125 (ninS (Nat.ne_of_lt lt_rc_59_a76) nin0)).keep K126 (ninS (Nat.ne_of_lt lt_rc_59_a76) nin0))
          refine own_callV X129 hx hZ hown (ow_74 hw) (ow_75 hw) (ow_77 hw) (ow_76 hw) (ow_62 hw) (ow_78 hw) (by decide) f131 (rm_chY l Z a0 hw a76 a38 a14 rc_25 rd_25 rc_59 u4 (0 : Int64) (u5 &&& (9223372036854775807 : Int64)) T126.heap n0 z130 p126_0 f143 f144 f145 f146 f147 f148 f149 f150 (by rw [own_s0]; exact c132)) eh129 (W := 0) (by decide) (by decide) opd__Lcom_example_binlease_binlease_model_Job__Lcom_example_binlease_binlease_model_Server_ rfl (rest := []) rfl (hb hby at_192) (Nat.le_of_eq rfl) (by rw [hml]; rfl) (by decide) (by decide) (pc' := 195) rfl ?_
          intro v142 T142 L142 X142 q142
          obtain ⟨rfl, Nq142, eh142⟩ := q142
          have N142 := Fr.app N129 Nq142
          show own_G p e below _ (T142.setTop (mkF m 195 #[.val (.int u0), .val (.int u1), .val (.int u2), .val (.long u3), .second, .val (.long u4), .second, .val (.long u5), .second, .val (.int (u0 &&& (3 : Int32))), .val (.long (u5 &&& (9223372036854775807 : Int64))), .second, .val (.ref a1), .val (.ref a14), .val (.ref a38), .val (.ref a76), .val (.ref a14)] [(.ref a14)]))
          refine own_aload X142 hx (hb hby at_195) rfl rfl (pc' := 197) rfl ?_
          refine own_acmpF X142 hx (hb hby at_197) rfl rfl (by simp [XT.acmp]) (pc' := 200) rfl ?_
          refine own_iconst X142 hx (hb hby at_200) (z := (1 : Int32)) rfl (pc' := 201) rfl ?_
          refine own_goto X142 hx (hb hby at_201) (by decide) (pc' := 205) rfl ?_
          exact own_retZW X142 hx hSi (by rw [eh142]; exact (Nat.le_trans (Nat.le_trans (Nat.le_trans (Nat.le_trans (Nat.le_trans (Nat.le_trans hki E47.1) (Nat.le_of_eq (Wr.size W58).symm)) K59.1) E76.1) K125.1) K126.1)) hret hlk (Or.inr rfl) (hb hby at_205) ⟨rfl, N142⟩ (by decide) (by decide)
set_option maxRecDepth 65536 in
set_option maxHeartbeats 40000000 in
theorem comes_1 {Post : Tables → Env → Array Value → State → Outcome → State → Prop} (hpost : ∀ tb e args s v u, (limb_1_1.after args s (.returned v) u = true ∧ limb_1_2.after args s (.returned v) u = true ∧ True) → ReturnedEndW s (.returned v) u (Jvm.fieldLocs frame_1_writes args s ++ Jvm.arrayLocs frame_1_arrays args s ++ Jvm.staticLocs frame_1_statics s) 40 1152 → Post tb e args s (.returned v) u) :
    ArmFor flags0 classFile x code maxLocals ret World_1 tables_1 room_1 Calls_1 rest_1 Pre_1 Post := by
  intro l hfl _ _ p e ha hc hk s m args below hf hA hF happ hP
  obtain ⟨hcalls, hrest, hpre⟩ := hP
  obtain ⟨-, -, -, hnamed, -, -, -, hat⟩ := (Spec.applies_iff hf).mp happ
  obtain ⟨hg, hn⟩ := and_e (Cond.before_iff.mp (show (Jvm.Cond.and given_1 narrow_1).before args s = true from hpre))
  obtain ⟨gc, gr0⟩ := and_e hg
  obtain ⟨gk0, gr1⟩ := and_e gr0
  obtain ⟨gk1, gr2⟩ := and_e gr1
  obtain ⟨gk2, gr3⟩ := and_e gr2
  obtain ⟨gk3, gr4⟩ := and_e gr3
  obtain ⟨gk4, gr5⟩ := and_e gr4
  obtain ⟨w0, w1, w2, w3, w4, w5, rfl⟩ : ∃ w0 w1 w2 w3 w4 w5 : Value, args = #[w0, w1, w2, w3, w4, w5] := by
    have hs : args.size = 6 := by simpa [Cond.value, given_1] using gc
    obtain ⟨L⟩ := args
    match L, hs with
    | [w0, w1, w2, w3, w4, w5], _ => exact ⟨w0, w1, w2, w3, w4, w5, rfl⟩
  have hw := fun d (hd : d ∈ tables_1) => atoms_spec (ws := Jvm.Cond.code x code maxLocals ret :: tables_1) hat d (List.mem_cons_of_mem _ hd)
  obtain ⟨i0, ei0⟩ := is_v gk0
  obtain rfl : w0 = (.int i0) := Option.some.inj ei0
  obtain ⟨i1, ei1⟩ := is_v gk1
  obtain rfl : w1 = (.int i1) := Option.some.inj ei1
  obtain ⟨i2, ei2⟩ := is_v gk2
  obtain rfl : w2 = (.int i2) := Option.some.inj ei2
  obtain ⟨i3, ei3⟩ := isL_v gk3
  obtain rfl : w3 = (.long i3) := Option.some.inj ei3
  obtain ⟨i4, ei4⟩ := isL_v gk4
  obtain rfl : w4 = (.long i4) := Option.some.inj ei4
  obtain ⟨i5, ei5⟩ := isL_v gr5
  obtain rfl : w5 = (.long i5) := Option.some.inj ei5
  obtain ⟨n, o, h1, h2, h3, _, L, rfl, ⟨rfl, N⟩, hq⟩ := own_law l s _ hw i0 i1 i2 i3 i4 i5 s.heap s.heap.size (Nat.le_refl _) p e ha hc hk s m _ below hf ((Spec.applies_iff_loose hf).mp happ).1 ⟨rfl, State.Warmed39.refl s, rfl⟩ trivial
  refine ⟨n, _, h1, h2, h3, hpost _ _ _ _ _ _ ⟨Cond.after_iff.mpr rfl, Cond.after_iff.mpr (eq_i res_at (Term.int_eval (1)) rfl), trivial⟩ ⟨hq.1, hq.2.1, hq.2.2.1, (hq.2.2.2.sift fun y hy => Or.inr (N y hy)).mono (by decide) (by decide)⟩⟩
theorem main_1_1 : Claimed_1_1 := comes_1 fun _ _ _ _ _ _ h hF => ⟨h.1, hF⟩
theorem main_1_2 : Claimed_1_2 := comes_1 fun _ _ _ _ _ _ h hF => ⟨h.2.1, hF⟩
end Jvm.Pilot.@@N@@
namespace Jvm.Pilot.@@N@@
open Jvm Jvm.ClassFile Sem Op Lib Jvm.Free Jvm.Stand Jvm.Pilot.@@N@@.Jvm.D
/-! MADE BY PROGRAM (witnessworld.py) out of the Statement's table words and the real class files: 19 classes; the members and pool entries that the words name. The judged class is class 1, her method 1. -/
namespace start1
open Jvm.ClassFile
def u (s : String) : CpInfo := .utf8 (stringToUtf16 s)
/-- a pool by its gaps: so many unusable entries, then the entry; so many at the end -/
def gap : Nat → List CpInfo → List CpInfo
  | 0, r => r
  | n + 1, r => .unusable :: gap n r
def poolList (es : List (Nat × CpInfo)) (last : Nat) : List CpInfo := es.foldr (fun e r => gap e.1 (e.2 :: r)) (gap last [])
def pool (es : List (Nat × CpInfo)) (last : Nat) : Array CpInfo := ⟨poolList es last⟩
def fileOf (pool : Array CpInfo) (this : Nat) (attrs : Array Attribute := #[]) (ms : Array MethodInfo := #[]) (fl : Nat := 33) (sup : Nat := 0) (ifs : Array Nat := #[]) (fds : Array FieldInfo := #[]) : ClassFile where
  minorVersion := 0
  majorVersion := 65
  constantPool := pool
  accessFlags := fl
  thisClass := this
  superClass := sup
  interfaces := ifs
  fields := fds
  methods := ms
  attributes := attrs
def plain (name : String) (sup : Option ClassId) : Class where
  name := name
  kind := .ordinary
  loader := none
  accessFlags := 33
  super := sup
  interfaces := #[]
  cf := none
  fields := #[]
  methods := #[]
  instanceTypes := #[]
  staticTypes := #[]
  resolved := #[]
  callSites := []
  init := .initialized
  statics := none
  mirror := none

def pool0 : Array CpInfo := pool [(5, u "<init>"), (0, u "()V"), (1, .class_ 10), (1, u "java/lang/Object"), (85, u "clone"), (0, u "()Ljava/lang/Object;")] 26

def k0c0 : Code := { maxStack := 0, maxLocals := 1, code := object_method_1_code, exceptionTable := #[], attributes := #[] }
def k0m0 : Method := { name := "<init>", desc := "()V", sig := { parameters := [], returnType := none }, accessFlags := 1, code := some k0c0 }
def k0m1 : Method := { name := "clone", desc := "()Ljava/lang/Object;", sig := { parameters := [], returnType := some (.object "java/lang/Object") }, accessFlags := 260, code := none }
/-- java/lang/Object -/
def k0 : Class := { plain "java/lang/Object" none with
  accessFlags := 33
  interfaces := #[]
  cf := some (fileOf pool0 8 #[] #[{ accessFlags := 1, nameIndex := 5, descriptorIndex := 6, attributes := #[] }, { accessFlags := 260, nameIndex := 96, descriptorIndex := 97, attributes := #[] }] 33 0 #[] #[])
  fields := #[]
  methods := #[k0m0, k0m1]
  instanceTypes := #[]
  staticTypes := #[]
  resolved := Array.replicate 124 none
  statics := none }

def pool1 : Array CpInfo := pool [(2, .class_ 4), (0, .nameAndType 5 6), (0, u "java/lang/Object"), (0, u "<init>"), (0, u "()V"), (2, .long 9223372036854775807), (1, .class_ 12), (0, u "com/example/binlease/binlease/model/Server"), (0, .methodref 11 14), (0, .nameAndType 5 15), (0, u "(I[JJ)V"), (0, .class_ 17), (0, u "com/example/binlease/binlease/model/Job"), (0, .string 19), (0, u "j"), (0, .methodref 16 21), (0, .nameAndType 5 22), (0, u "(Ljava/lang/String;JJ[J)V"), (0, .class_ 24), (0, u "com/example/binlease/binlease/policy/NextFit"), (0, .methodref 23 3), (0, .methodref 23 27), (0, .nameAndType 28 29), (0, u "closed"), (0, u "(Lcom/example/binlease/binlease/model/Server;)V"), (0, .methodref 23 31), (0, .nameAndType 32 29), (0, u "opened"), (0, .methodref 23 34), (0, .nameAndType 35 36), (0, u "choose"), (0, u "(Lcom/example/binlease/binlease/model/Job;)Lcom/example/binlease/binlease/model/Server;"), (0, .class_ 38), (0, u "com/example/binlease/binlease/policy/NextFitClosedPinLaw"), (2, u "law"), (0, u "(IIIJJJ)Z")] 3

def k1m0 : Method := { name := "<init>", desc := "()V", sig := { parameters := [], returnType := none }, accessFlags := 2, code := none }
def k1c1 : Code := { maxStack := 12, maxLocals := 17, code := code, exceptionTable := #[], attributes := #[] }
def k1m1 : Method := { name := "law", desc := "(IIIJJJ)Z", sig := { parameters := [.int, .int, .int, .long, .long, .long], returnType := some .boolean }, accessFlags := 9, code := some k1c1 }
/-- com/example/binlease/binlease/policy/NextFitClosedPinLaw -/
def k1 : Class := { plain "com/example/binlease/binlease/policy/NextFitClosedPinLaw" (some 0) with
  accessFlags := 49
  interfaces := #[]
  cf := some (fileOf pool1 37 #[] #[{ accessFlags := 2, nameIndex := 5, descriptorIndex := 6, attributes := #[] }, { accessFlags := 9, nameIndex := 41, descriptorIndex := 42, attributes := #[] }] 49 2 #[] #[])
  fields := #[]
  methods := #[k1m0, k1m1]
  instanceTypes := #[]
  staticTypes := #[]
  resolved := Array.replicate 46 none
  statics := none }

def pool2 : Array CpInfo := pool [(1, .methodref 2 3), (0, .class_ 4), (0, .nameAndType 5 6), (0, u "java/lang/Object"), (0, u "<init>"), (0, u "()V"), (0, .fieldref 8 9), (0, .class_ 10), (0, .nameAndType 11 12), (0, u "com/example/binlease/binlease/model/Server"), (0, u "open"), (0, u "Z"), (0, .fieldref 8 14), (0, .nameAndType 15 16), (0, u "number"), (0, u "I"), (0, .methodref 18 19), (0, .class_ 20), (0, .nameAndType 21 22), (0, u "[J"), (0, u "clone"), (0, u "()Ljava/lang/Object;"), (0, .fieldref 8 24), (0, .nameAndType 25 20), (0, u "capacity"), (0, .fieldref 8 27), (0, .nameAndType 28 20), (0, u "load"), (0, .fieldref 8 30), (0, .nameAndType 31 32), (0, u "openedAt"), (0, u "J"), (2, u "closedAt"), (2, u "jobs"), (0, .methodref 40 41), (0, .class_ 42), (0, .nameAndType 43 44), (0, u "com/example/binlease/binlease/model/Job"), (0, u "size"), (0, u "(I)J"), (0, .methodref 8 46), (0, .nameAndType 47 44), (0, u "room"), (0, u "(I[JJ)V"), (7, u "hasRoomFor"), (0, u "(Lcom/example/binlease/binlease/model/Job;)Z")] 8

def k2c0 : Code := { maxStack := 3, maxLocals := 5, code := prog_25_method_1_code, exceptionTable := #[], attributes := #[] }
def k2m0 : Method := { name := "<init>", desc := "(I[JJ)V", sig := { parameters := [.int, (.array .long), .long], returnType := none }, accessFlags := 1, code := some k2c0 }
def k2c1 : Code := { maxStack := 4, maxLocals := 2, code := prog_25_method_9_code, exceptionTable := #[], attributes := #[] }
def k2m1 : Method := { name := "room", desc := "(I)J", sig := { parameters := [.int], returnType := some .long }, accessFlags := 1, code := some k2c1 }
def k2c2 : Code := { maxStack := 4, maxLocals := 3, code := prog_25_method_10_code, exceptionTable := #[], attributes := #[] }
def k2m2 : Method := { name := "hasRoomFor", desc := "(Lcom/example/binlease/binlease/model/Job;)Z", sig := { parameters := [(.object "com/example/binlease/binlease/model/Job")], returnType := some .boolean }, accessFlags := 1, code := some k2c2 }
/-- com/example/binlease/binlease/model/Server -/
def k2 : Class := { plain "com/example/binlease/binlease/model/Server" (some 0) with
  accessFlags := 49
  interfaces := #[]
  cf := some (fileOf pool2 8 #[] #[{ accessFlags := 1, nameIndex := 5, descriptorIndex := 48, attributes := #[] }, { accessFlags := 1, nameIndex := 47, descriptorIndex := 44, attributes := #[] }, { accessFlags := 1, nameIndex := 56, descriptorIndex := 57, attributes := #[] }] 49 2 #[] #[{ accessFlags := 18, nameIndex := 15, descriptorIndex := 16, attributes := #[] }, { accessFlags := 18, nameIndex := 25, descriptorIndex := 20, attributes := #[] }, { accessFlags := 18, nameIndex := 28, descriptorIndex := 20, attributes := #[] }, { accessFlags := 18, nameIndex := 31, descriptorIndex := 32, attributes := #[] }, { accessFlags := 2, nameIndex := 35, descriptorIndex := 32, attributes := #[] }, { accessFlags := 2, nameIndex := 11, descriptorIndex := 12, attributes := #[] }, { accessFlags := 2, nameIndex := 38, descriptorIndex := 16, attributes := #[] }])
  fields := #[{ name := "number", type := .int, accessFlags := 18, slot := 0, constantValue := 0 }, { name := "capacity", type := (.array .long), accessFlags := 18, slot := 1, constantValue := 0 }, { name := "load", type := (.array .long), accessFlags := 18, slot := 2, constantValue := 0 }, { name := "openedAt", type := .long, accessFlags := 18, slot := 3, constantValue := 0 }, { name := "closedAt", type := .long, accessFlags := 2, slot := 4, constantValue := 0 }, { name := "open", type := .boolean, accessFlags := 2, slot := 5, constantValue := 0 }, { name := "jobs", type := .int, accessFlags := 2, slot := 6, constantValue := 0 }]
  methods := #[k2m0, k2m1, k2m2]
  instanceTypes := #[.int, (.array .long), (.array .long), .long, .long, .boolean, .int]
  staticTypes := #[]
  resolved := Array.replicate 66 none
  statics := none }

def pool3 : Array CpInfo := pool [(1, .class_ 2), (0, u "java/lang/Cloneable"), (0, .class_ 4), (0, u "java/lang/Object")] 2

/-- java/lang/Cloneable -/
def k3 : Class := { plain "java/lang/Cloneable" (some 0) with
  accessFlags := 1537
  interfaces := #[]
  cf := some (fileOf pool3 1 #[] #[] 1537 3 #[] #[])
  fields := #[]
  methods := #[]
  instanceTypes := #[]
  staticTypes := #[]
  resolved := Array.replicate 7 none
  statics := none }

def pool4 : Array CpInfo := pool [(1, .class_ 2), (0, u "com/example/binlease/binlease/model/Job"), (4, .methodref 1 8), (0, .nameAndType 9 10), (0, u "<init>"), (0, u "(Ljava/lang/String;JJZ[J)V"), (9, .methodref 21 22), (0, .class_ 23), (0, .nameAndType 9 24), (0, u "java/lang/Object"), (0, u "()V"), (2, .fieldref 1 28), (0, .nameAndType 29 30), (0, u "id"), (0, u "Ljava/lang/String;"), (0, .fieldref 1 32), (0, .nameAndType 33 34), (0, u "arrival"), (0, u "J"), (0, .fieldref 1 36), (0, .nameAndType 37 34), (0, u "departure"), (0, .fieldref 1 39), (0, .nameAndType 40 41), (0, u "departureKnown"), (0, u "Z"), (0, .methodref 43 44), (0, .class_ 45), (0, .nameAndType 46 47), (0, u "[J"), (0, u "clone"), (0, u "()Ljava/lang/Object;"), (0, .fieldref 1 49), (0, .nameAndType 50 45), (0, u "sizes"), (29, u "MAX_TIME"), (1, u "HANDLED_TIMES"), (7, u "(Ljava/lang/String;JJ[J)V"), (7, u "size"), (0, u "(I)J")] 27

def k4c0 : Code := { maxStack := 8, maxLocals := 7, code := prog_24_method_2_code, exceptionTable := #[], attributes := #[] }
def k4m0 : Method := { name := "<init>", desc := "(Ljava/lang/String;JJ[J)V", sig := { parameters := [(.object "java/lang/String"), .long, .long, (.array .long)], returnType := none }, accessFlags := 129, code := some k4c0 }
def k4c1 : Code := { maxStack := 4, maxLocals := 13, code := prog_24_method_3_code, exceptionTable := #[], attributes := #[] }
def k4m1 : Method := { name := "<init>", desc := "(Ljava/lang/String;JJZ[J)V", sig := { parameters := [(.object "java/lang/String"), .long, .long, .boolean, (.array .long)], returnType := none }, accessFlags := 2, code := some k4c1 }
def k4c2 : Code := { maxStack := 2, maxLocals := 2, code := prog_24_method_11_code, exceptionTable := #[], attributes := #[] }
def k4m2 : Method := { name := "size", desc := "(I)J", sig := { parameters := [.int], returnType := some .long }, accessFlags := 1, code := some k4c2 }
/-- com/example/binlease/binlease/model/Job -/
def k4 : Class := { plain "com/example/binlease/binlease/model/Job" (some 0) with
  accessFlags := 49
  interfaces := #[]
  cf := some (fileOf pool4 1 #[] #[{ accessFlags := 129, nameIndex := 9, descriptorIndex := 90, attributes := #[] }, { accessFlags := 2, nameIndex := 9, descriptorIndex := 10, attributes := #[] }, { accessFlags := 1, nameIndex := 98, descriptorIndex := 99, attributes := #[] }] 49 21 #[] #[{ accessFlags := 25, nameIndex := 80, descriptorIndex := 34, attributes := #[] }, { accessFlags := 25, nameIndex := 82, descriptorIndex := 30, attributes := #[] }, { accessFlags := 18, nameIndex := 29, descriptorIndex := 30, attributes := #[] }, { accessFlags := 18, nameIndex := 33, descriptorIndex := 34, attributes := #[] }, { accessFlags := 18, nameIndex := 37, descriptorIndex := 34, attributes := #[] }, { accessFlags := 18, nameIndex := 40, descriptorIndex := 41, attributes := #[] }, { accessFlags := 18, nameIndex := 50, descriptorIndex := 45, attributes := #[] }])
  fields := #[{ name := "MAX_TIME", type := .long, accessFlags := 25, slot := 0, constantValue := 0 }, { name := "HANDLED_TIMES", type := (.object "java/lang/String"), accessFlags := 25, slot := 1, constantValue := 0 }, { name := "id", type := (.object "java/lang/String"), accessFlags := 18, slot := 0, constantValue := 0 }, { name := "arrival", type := .long, accessFlags := 18, slot := 1, constantValue := 0 }, { name := "departure", type := .long, accessFlags := 18, slot := 2, constantValue := 0 }, { name := "departureKnown", type := .boolean, accessFlags := 18, slot := 3, constantValue := 0 }, { name := "sizes", type := (.array .long), accessFlags := 18, slot := 4, constantValue := 0 }]
  methods := #[k4m0, k4m1, k4m2]
  instanceTypes := #[(.object "java/lang/String"), .long, .long, .boolean, (.array .long)]
  staticTypes := #[.long, (.object "java/lang/String")]
  resolved := Array.replicate 127 none
  statics := none }

def pool5 : Array CpInfo := pool [(1, .class_ 2), (0, u "java/io/Serializable"), (0, .class_ 4), (0, u "java/lang/Object")] 2

/-- java/io/Serializable -/
def k5 : Class := { plain "java/io/Serializable" (some 0) with
  accessFlags := 1537
  interfaces := #[]
  cf := some (fileOf pool5 1 #[] #[] 1537 3 #[] #[])
  fields := #[]
  methods := #[]
  instanceTypes := #[]
  staticTypes := #[]
  resolved := Array.replicate 7 none
  statics := none }

def pool6 : Array CpInfo := pool [(1, .class_ 2), (0, u "java/lang/Comparable"), (0, .class_ 4), (0, u "java/lang/Object")] 7

/-- java/lang/Comparable -/
def k6 : Class := { plain "java/lang/Comparable" (some 0) with
  accessFlags := 1537
  interfaces := #[]
  cf := some (fileOf pool6 1 #[] #[] 1537 3 #[] #[])
  fields := #[]
  methods := #[]
  instanceTypes := #[]
  staticTypes := #[]
  resolved := Array.replicate 12 none
  statics := none }

def pool7 : Array CpInfo := pool [(2, .class_ 4), (1, u "java/lang/CharSequence"), (42, .class_ 48), (0, u "java/lang/CharSequence$1CodePointIterator"), (10, .class_ 60), (0, u "java/lang/CharSequence$1CharIterator"), (5, .class_ 67), (0, u "java/lang/Object")] 63

/-- java/lang/CharSequence -/
def k7 : Class := { plain "java/lang/CharSequence" (some 0) with
  accessFlags := 1537
  interfaces := #[]
  cf := some (fileOf pool7 2 #[.nestMembers #[47, 59]] #[] 1537 66 #[] #[])
  fields := #[]
  methods := #[]
  instanceTypes := #[]
  staticTypes := #[]
  resolved := Array.replicate 131 none
  statics := none }

def pool8 : Array CpInfo := pool [(1, .class_ 2), (0, u "java/lang/constant/Constable"), (0, .class_ 4), (0, u "java/lang/Object")] 6

/-- java/lang/constant/Constable -/
def k8 : Class := { plain "java/lang/constant/Constable" (some 0) with
  accessFlags := 1537
  interfaces := #[]
  cf := some (fileOf pool8 1 #[] #[] 1537 3 #[] #[])
  fields := #[]
  methods := #[]
  instanceTypes := #[]
  staticTypes := #[]
  resolved := Array.replicate 11 none
  statics := none }

def pool9 : Array CpInfo := pool [(1, .class_ 2), (0, u "java/lang/constant/ConstantDesc"), (0, .class_ 4), (0, u "java/lang/Object")] 32

/-- java/lang/constant/ConstantDesc -/
def k9 : Class := { plain "java/lang/constant/ConstantDesc" (some 0) with
  accessFlags := 1537
  interfaces := #[]
  cf := some (fileOf pool9 1 #[] #[] 1537 3 #[] #[])
  fields := #[]
  methods := #[]
  instanceTypes := #[]
  staticTypes := #[]
  resolved := Array.replicate 37 none
  statics := none }

def pool10 : Array CpInfo := pool [(2, .class_ 4), (1, u "java/lang/Object"), (0, u "<init>"), (0, u "()V"), (3, .class_ 12), (1, u "java/lang/String"), (0, u "value"), (0, u "[B"), (2, u "coder"), (0, u "B"), (2, u "hash"), (0, u "I"), (2, u "hashIsZero"), (0, u "Z"), (13, u "COMPACT_STRINGS"), (534, .class_ 576), (0, u "java/lang/CharSequence"), (22, u "CASE_INSENSITIVE_ORDER"), (0, u "Ljava/util/Comparator;"), (500, u "serialPersistentFields"), (0, u "[Ljava/io/ObjectStreamField;"), (0, .class_ 1104), (0, u "java/lang/String$CaseInsensitiveComparator"), (1, .class_ 1107), (0, u "java/io/Serializable"), (0, .class_ 1109), (0, u "java/lang/Comparable"), (0, .class_ 1111), (0, u "java/lang/constant/Constable"), (0, .class_ 1113), (0, u "java/lang/constant/ConstantDesc"), (2, u "serialVersionUID"), (0, u "J"), (3, u "REPL"), (0, u "C"), (2, u "LATIN1"), (1, u "UTF16")] 323

def k10m0 : Method := { name := "<init>", desc := "()V", sig := { parameters := [], returnType := none }, accessFlags := 1, code := none }
/-- java/lang/String -/
def k10 : Class := { plain "java/lang/String" (some 0) with
  accessFlags := 49
  interfaces := #[5, 6, 7, 8, 9]
  cf := some (fileOf pool10 10 #[.nestMembers #[1103]] #[{ accessFlags := 1, nameIndex := 5, descriptorIndex := 6, attributes := #[] }] 49 2 #[1106, 1108, 575, 1110, 1112] #[{ accessFlags := 18, nameIndex := 13, descriptorIndex := 14, attributes := #[] }, { accessFlags := 18, nameIndex := 17, descriptorIndex := 18, attributes := #[] }, { accessFlags := 2, nameIndex := 21, descriptorIndex := 22, attributes := #[] }, { accessFlags := 2, nameIndex := 25, descriptorIndex := 26, attributes := #[] }, { accessFlags := 26, nameIndex := 1116, descriptorIndex := 1117, attributes := #[] }, { accessFlags := 24, nameIndex := 40, descriptorIndex := 26, attributes := #[] }, { accessFlags := 26, nameIndex := 1101, descriptorIndex := 1102, attributes := #[] }, { accessFlags := 26, nameIndex := 1121, descriptorIndex := 1122, attributes := #[] }, { accessFlags := 25, nameIndex := 599, descriptorIndex := 600, attributes := #[] }, { accessFlags := 24, nameIndex := 1125, descriptorIndex := 18, attributes := #[] }, { accessFlags := 24, nameIndex := 1127, descriptorIndex := 18, attributes := #[] }])
  fields := #[{ name := "value", type := (.array .byte), accessFlags := 18, slot := 0, constantValue := 0 }, { name := "coder", type := .byte, accessFlags := 18, slot := 1, constantValue := 0 }, { name := "hash", type := .int, accessFlags := 2, slot := 2, constantValue := 0 }, { name := "hashIsZero", type := .boolean, accessFlags := 2, slot := 3, constantValue := 0 }, { name := "serialVersionUID", type := .long, accessFlags := 26, slot := 0, constantValue := 0 }, { name := "COMPACT_STRINGS", type := .boolean, accessFlags := 24, slot := 1, constantValue := 0 }, { name := "serialPersistentFields", type := (.array (.object "java/io/ObjectStreamField")), accessFlags := 26, slot := 2, constantValue := 0 }, { name := "REPL", type := .char, accessFlags := 26, slot := 3, constantValue := 0 }, { name := "CASE_INSENSITIVE_ORDER", type := (.object "java/util/Comparator"), accessFlags := 25, slot := 4, constantValue := 0 }, { name := "LATIN1", type := .byte, accessFlags := 24, slot := 5, constantValue := 0 }, { name := "UTF16", type := .byte, accessFlags := 24, slot := 6, constantValue := 0 }]
  methods := #[k10m0]
  instanceTypes := #[(.array .byte), .byte, .int, .boolean]
  staticTypes := #[.long, .boolean, (.array (.object "java/io/ObjectStreamField")), .char, (.object "java/util/Comparator"), .byte, .byte]
  resolved := Array.replicate 1451 none
  statics := none }

def pool11 : Array CpInfo := pool [(1, .class_ 2), (0, u "com/example/binlease/binlease/policy/PlacementPolicy"), (0, .class_ 4), (0, u "java/lang/Object")] 16

/-- com/example/binlease/binlease/policy/PlacementPolicy -/
def k11 : Class := { plain "com/example/binlease/binlease/policy/PlacementPolicy" (some 0) with
  accessFlags := 1537
  interfaces := #[]
  cf := some (fileOf pool11 1 #[] #[] 1537 3 #[] #[])
  fields := #[]
  methods := #[]
  instanceTypes := #[]
  staticTypes := #[]
  resolved := Array.replicate 21 none
  statics := none }

def pool12 : Array CpInfo := pool [(1, .methodref 2 3), (0, .class_ 4), (0, .nameAndType 5 6), (0, u "java/lang/Object"), (0, u "<init>"), (0, u "()V"), (4, .fieldref 12 13), (0, .class_ 14), (0, .nameAndType 15 16), (0, u "com/example/binlease/binlease/policy/NextFit"), (0, u "receiving"), (0, u "Lcom/example/binlease/binlease/model/Server;"), (0, .methodref 18 19), (0, .class_ 20), (0, .nameAndType 21 22), (0, u "com/example/binlease/binlease/model/Server"), (0, u "hasRoomFor"), (0, u "(Lcom/example/binlease/binlease/model/Job;)Z"), (0, .class_ 24), (0, u "com/example/binlease/binlease/policy/PlacementPolicy"), (4, u "choose"), (0, u "(Lcom/example/binlease/binlease/model/Job;)Lcom/example/binlease/binlease/model/Server;"), (1, u "opened"), (0, u "(Lcom/example/binlease/binlease/model/Server;)V"), (0, u "closed")] 2

def k12c0 : Code := { maxStack := 1, maxLocals := 1, code := prog_35_method_1_code, exceptionTable := #[], attributes := #[] }
def k12m0 : Method := { name := "<init>", desc := "()V", sig := { parameters := [], returnType := none }, accessFlags := 1, code := some k12c0 }
def k12c1 : Code := { maxStack := 2, maxLocals := 2, code := prog_35_method_3_code, exceptionTable := #[], attributes := #[] }
def k12m1 : Method := { name := "choose", desc := "(Lcom/example/binlease/binlease/model/Job;)Lcom/example/binlease/binlease/model/Server;", sig := { parameters := [(.object "com/example/binlease/binlease/model/Job")], returnType := some (.object "com/example/binlease/binlease/model/Server") }, accessFlags := 1, code := some k12c1 }
def k12c2 : Code := { maxStack := 2, maxLocals := 2, code := prog_35_method_4_code, exceptionTable := #[], attributes := #[] }
def k12m2 : Method := { name := "opened", desc := "(Lcom/example/binlease/binlease/model/Server;)V", sig := { parameters := [(.object "com/example/binlease/binlease/model/Server")], returnType := none }, accessFlags := 1, code := some k12c2 }
def k12c3 : Code := { maxStack := 2, maxLocals := 2, code := prog_35_method_5_code, exceptionTable := #[], attributes := #[] }
def k12m3 : Method := { name := "closed", desc := "(Lcom/example/binlease/binlease/model/Server;)V", sig := { parameters := [(.object "com/example/binlease/binlease/model/Server")], returnType := none }, accessFlags := 1, code := some k12c3 }
/-- com/example/binlease/binlease/policy/NextFit -/
def k12 : Class := { plain "com/example/binlease/binlease/policy/NextFit" (some 0) with
  accessFlags := 49
  interfaces := #[11]
  cf := some (fileOf pool12 12 #[] #[{ accessFlags := 1, nameIndex := 5, descriptorIndex := 6, attributes := #[] }, { accessFlags := 1, nameIndex := 29, descriptorIndex := 30, attributes := #[] }, { accessFlags := 1, nameIndex := 32, descriptorIndex := 33, attributes := #[] }, { accessFlags := 1, nameIndex := 34, descriptorIndex := 33, attributes := #[] }] 49 2 #[23] #[{ accessFlags := 2, nameIndex := 15, descriptorIndex := 16, attributes := #[] }])
  fields := #[{ name := "receiving", type := (.object "com/example/binlease/binlease/model/Server"), accessFlags := 2, slot := 0, constantValue := 0 }]
  methods := #[k12m0, k12m1, k12m2, k12m3]
  instanceTypes := #[(.object "com/example/binlease/binlease/model/Server")]
  staticTypes := #[]
  resolved := Array.replicate 37 none
  statics := none }

/-- the primitive byte -/
def k13 : Class := { plain "byte" none with kind := .primitive 'B', accessFlags := 0x411 }
/-- [B -/
def k14 : Class := { plain "[B" (some 0) with kind := .array 13 .byte, interfaces := #[3, 5], accessFlags := 1041 }

/-- the primitive int -/
def k15 : Class := { plain "int" none with kind := .primitive 'I', accessFlags := 0x411 }
/-- [I -/
def k16 : Class := { plain "[I" (some 0) with kind := .array 15 .int, interfaces := #[3, 5], accessFlags := 1041 }

/-- the primitive long -/
def k17 : Class := { plain "long" none with kind := .primitive 'J', accessFlags := 0x411 }
/-- [J -/
def k18 : Class := { plain "[J" (some 0) with kind := .array 17 .long, interfaces := #[3, 5], accessFlags := 1041 }

def heap : Heap := #[]
def classes : Array Class := #[k0, k1, k2, k3, k4, k5, k6, k7, k8, k9, k10, k11, k12, k13, k14, k15, k16, k17, k18]
def interned : List (Array UInt16 × Addr) := []
def slotsUsed : Nat := 0
def theMethod : MethodId := ⟨1, 1⟩
def args0 : Array Value := #[.int 2, .int 6, .int 7, .long 8, .long 9, .long 5]
def aboutOver (below : List Frame) : State where
  vm := { classes := classes, interned := interned.toArray }
  heap := heap
  slotsUsed := slotsUsed
  threads := #[{ frames := .invoking theMethod args0 :: below }]
def below0 : List Frame := [.native { method := ⟨0, 0⟩, args := #[] }]
def about1 : State := aboutOver below0
def p0 : Program := .bare "" "" ""
def e0 : Env := launch0.env 0 0 0
theorem w_frames : about1.frames = Frame.invoking theMethod args0 :: below0 := rfl
set_option maxRecDepth 65536 in
theorem w_args : argsFit about1.vm theMethod args0 = true := by decide +kernel
set_option maxRecDepth 65536 in
theorem w_heap : heapFits about1 = true := by decide +kernel
set_option maxRecDepth 65536 in
theorem w_runnable : about1.curStatus? = some .runnable := by decide +kernel
set_option maxRecDepth 65536 in
theorem w_alone : about1.alone = true := by decide +kernel
set_option maxRecDepth 65536 in
theorem w_named : about1.methodNamed? x = some theMethod := by decide +kernel
set_option maxRecDepth 65536 in
theorem w_hears : about1.hears theMethod below0 = true := by decide +kernel
set_option maxRecDepth 65536 in
theorem w_ripe : about1.ripe theMethod args0 below0 = true := by decide +kernel
theorem w_running : about1.status = .running := rfl
set_option maxRecDepth 65536 in
theorem w_room : about1.hasRoom e0.platform room_1 = true :=
  launch0.hasRoom_least _ room_1 (by decide +kernel) (by decide +kernel) (by decide +kernel) (by decide +kernel) (by decide +kernel) (by decide +kernel)
theorem allAtoms_all (ts : List Jvm.Cond) (a : Array Jvm.Value) (st : Jvm.State) : (allAtoms ts).before a st = ts.all (fun c => c.before a st) := by
  induction ts with
  | nil => rfl
  | cons c t ih =>
    show (Jvm.Cond.and c (allAtoms t)).before a st = _
    rw [Jvm.Cond.before_and, ih, List.all_cons]
def words1 : List Jvm.Cond := Jvm.Cond.code x code maxLocals ret :: tables_1
/-- a 'code' word, met by the world's own term for the bytes: nothing is compared byte by byte -/
theorem code_word {y : MethodName} {bytes : ByteArray} {mx : Nat} {rt : Option FieldType} {a : Array Value} {s : State} {m : MethodId} {meth : Method} {c : Code} (h1 : s.methodNamed? y = some m) (h2 : s.vm.method? m = some meth) (h3 : meth.code = some c) (h4 : c.code = bytes)
    (h5 : (c.maxLocals == mx && c.exceptionTable.isEmpty && decide (c.maxStack ≤ mostOperands) && decide (meth.sig.returnType = rt) && !meth.locks && decide (parseMethodDescriptor y.desc = some meth.sig)) = true) : (Jvm.Cond.code y bytes mx rt).before a s = true := by
  simp only [Bool.and_eq_true, beq_iff_eq, Bool.not_eq_true', decide_eq_true_eq] at h5
  obtain ⟨⟨⟨⟨⟨g1, g2⟩, g3⟩, g4⟩, g5⟩, g6⟩ := h5
  simp [Cond.before, Cond.holds, Cond.value, h1, h2, h3, h4, g1, g2, g3, g4, g5, g6]
def isCode : Jvm.Cond → Bool
  | .code _ _ _ _ => true
  | _ => false
theorem all_split {L : List Jvm.Cond} {P : Jvm.Cond → Bool} (h1 : L.all (fun c => isCode c || P c) = true) (h2 : ∀ c ∈ L.filter isCode, P c = true) : L.all P = true := by
  refine List.all_eq_true.mpr fun c hc => ?_
  have h := List.all_eq_true.mp h1 c hc
  rcases Bool.eq_false_or_eq_true (isCode c) with hi | hi
  · exact h2 c (List.mem_filter.mpr ⟨hc, hi⟩)
  · simpa [hi] using h
set_option maxRecDepth 65536 in
theorem w_c0 : (Jvm.Cond.code x code maxLocals ret).before args0 about1 = true := code_word (m := ⟨1, 1⟩) (meth := k1m1) (c := k1c1) (by decide +kernel) rfl rfl rfl (by decide +kernel)
set_option maxRecDepth 65536 in
theorem w_c1 : (Jvm.Cond.code ({ cls := "com/example/binlease/binlease/model/Server", name := "<init>", desc := "(I[JJ)V" } : Jvm.MethodName) prog_25_method_1_code (5 : Nat) (Option.none : Option Jvm.ClassFile.FieldType)).before args0 about1 = true := code_word (m := ⟨2, 0⟩) (meth := k2m0) (c := k2c0) (by decide +kernel) rfl rfl rfl (by decide +kernel)
set_option maxRecDepth 65536 in
theorem w_c2 : (Jvm.Cond.code ({ cls := "java/lang/Object", name := "<init>", desc := "()V" } : Jvm.MethodName) object_method_1_code (1 : Nat) (Option.none : Option Jvm.ClassFile.FieldType)).before args0 about1 = true := code_word (m := ⟨0, 0⟩) (meth := k0m0) (c := k0c0) (by decide +kernel) rfl rfl rfl (by decide +kernel)
set_option maxRecDepth 65536 in
theorem w_c3 : (Jvm.Cond.code ({ cls := "com/example/binlease/binlease/model/Job", name := "<init>", desc := "(Ljava/lang/String;JJ[J)V" } : Jvm.MethodName) prog_24_method_2_code (7 : Nat) (Option.none : Option Jvm.ClassFile.FieldType)).before args0 about1 = true := code_word (m := ⟨4, 0⟩) (meth := k4m0) (c := k4c0) (by decide +kernel) rfl rfl rfl (by decide +kernel)
set_option maxRecDepth 65536 in
theorem w_c4 : (Jvm.Cond.code ({ cls := "com/example/binlease/binlease/model/Job", name := "<init>", desc := "(Ljava/lang/String;JJZ[J)V" } : Jvm.MethodName) prog_24_method_3_code (13 : Nat) (Option.none : Option Jvm.ClassFile.FieldType)).before args0 about1 = true := code_word (m := ⟨4, 1⟩) (meth := k4m1) (c := k4c1) (by decide +kernel) rfl rfl rfl (by decide +kernel)
set_option maxRecDepth 65536 in
theorem w_c5 : (Jvm.Cond.code ({ cls := "com/example/binlease/binlease/policy/NextFit", name := "<init>", desc := "()V" } : Jvm.MethodName) prog_35_method_1_code (1 : Nat) (Option.none : Option Jvm.ClassFile.FieldType)).before args0 about1 = true := code_word (m := ⟨12, 0⟩) (meth := k12m0) (c := k12c0) (by decide +kernel) rfl rfl rfl (by decide +kernel)
set_option maxRecDepth 65536 in
theorem w_c6 : (Jvm.Cond.code ({ cls := "com/example/binlease/binlease/policy/NextFit", name := "closed", desc := "(Lcom/example/binlease/binlease/model/Server;)V" } : Jvm.MethodName) prog_35_method_5_code (2 : Nat) (Option.none : Option Jvm.ClassFile.FieldType)).before args0 about1 = true := code_word (m := ⟨12, 3⟩) (meth := k12m3) (c := k12c3) (by decide +kernel) rfl rfl rfl (by decide +kernel)
set_option maxRecDepth 65536 in
theorem w_c7 : (Jvm.Cond.code ({ cls := "com/example/binlease/binlease/policy/NextFit", name := "choose", desc := "(Lcom/example/binlease/binlease/model/Job;)Lcom/example/binlease/binlease/model/Server;" } : Jvm.MethodName) prog_35_method_3_code (2 : Nat) (Option.some (Jvm.ClassFile.FieldType.object "com/example/binlease/binlease/model/Server"))).before args0 about1 = true := code_word (m := ⟨12, 1⟩) (meth := k12m1) (c := k12c1) (by decide +kernel) rfl rfl rfl (by decide +kernel)
set_option maxRecDepth 65536 in
theorem w_c8 : (Jvm.Cond.code ({ cls := "com/example/binlease/binlease/policy/NextFit", name := "opened", desc := "(Lcom/example/binlease/binlease/model/Server;)V" } : Jvm.MethodName) prog_35_method_4_code (2 : Nat) (Option.none : Option Jvm.ClassFile.FieldType)).before args0 about1 = true := code_word (m := ⟨12, 2⟩) (meth := k12m2) (c := k12c2) (by decide +kernel) rfl rfl rfl (by decide +kernel)
set_option maxRecDepth 65536 in
theorem w_c9 : (Jvm.Cond.code ({ cls := "com/example/binlease/binlease/model/Server", name := "hasRoomFor", desc := "(Lcom/example/binlease/binlease/model/Job;)Z" } : Jvm.MethodName) prog_25_method_10_code (3 : Nat) (Option.some Jvm.ClassFile.FieldType.boolean)).before args0 about1 = true := code_word (m := ⟨2, 2⟩) (meth := k2m2) (c := k2c2) (by decide +kernel) rfl rfl rfl (by decide +kernel)
set_option maxRecDepth 65536 in
theorem w_c10 : (Jvm.Cond.code ({ cls := "com/example/binlease/binlease/model/Job", name := "size", desc := "(I)J" } : Jvm.MethodName) prog_24_method_11_code (2 : Nat) (Option.some Jvm.ClassFile.FieldType.long)).before args0 about1 = true := code_word (m := ⟨4, 2⟩) (meth := k4m2) (c := k4c2) (by decide +kernel) rfl rfl rfl (by decide +kernel)
set_option maxRecDepth 65536 in
theorem w_c11 : (Jvm.Cond.code ({ cls := "com/example/binlease/binlease/model/Server", name := "room", desc := "(I)J" } : Jvm.MethodName) prog_25_method_9_code (2 : Nat) (Option.some Jvm.ClassFile.FieldType.long)).before args0 about1 = true := code_word (m := ⟨2, 1⟩) (meth := k2m1) (c := k2c1) (by decide +kernel) rfl rfl rfl (by decide +kernel)
def codes1 : List Jvm.Cond := [Jvm.Cond.code x code maxLocals ret, Jvm.Cond.code ({ cls := "com/example/binlease/binlease/model/Server", name := "<init>", desc := "(I[JJ)V" } : Jvm.MethodName) prog_25_method_1_code (5 : Nat) (Option.none : Option Jvm.ClassFile.FieldType), Jvm.Cond.code ({ cls := "java/lang/Object", name := "<init>", desc := "()V" } : Jvm.MethodName) object_method_1_code (1 : Nat) (Option.none : Option Jvm.ClassFile.FieldType), Jvm.Cond.code ({ cls := "com/example/binlease/binlease/model/Job", name := "<init>", desc := "(Ljava/lang/String;JJ[J)V" } : Jvm.MethodName) prog_24_method_2_code (7 : Nat) (Option.none : Option Jvm.ClassFile.FieldType), Jvm.Cond.code ({ cls := "com/example/binlease/binlease/model/Job", name := "<init>", desc := "(Ljava/lang/String;JJZ[J)V" } : Jvm.MethodName) prog_24_method_3_code (13 : Nat) (Option.none : Option Jvm.ClassFile.FieldType), Jvm.Cond.code ({ cls := "com/example/binlease/binlease/policy/NextFit", name := "<init>", desc := "()V" } : Jvm.MethodName) prog_35_method_1_code (1 : Nat) (Option.none : Option Jvm.ClassFile.FieldType), Jvm.Cond.code ({ cls := "com/example/binlease/binlease/policy/NextFit", name := "closed", desc := "(Lcom/example/binlease/binlease/model/Server;)V" } : Jvm.MethodName) prog_35_method_5_code (2 : Nat) (Option.none : Option Jvm.ClassFile.FieldType), Jvm.Cond.code ({ cls := "com/example/binlease/binlease/policy/NextFit", name := "choose", desc := "(Lcom/example/binlease/binlease/model/Job;)Lcom/example/binlease/binlease/model/Server;" } : Jvm.MethodName) prog_35_method_3_code (2 : Nat) (Option.some (Jvm.ClassFile.FieldType.object "com/example/binlease/binlease/model/Server")), Jvm.Cond.code ({ cls := "com/example/binlease/binlease/policy/NextFit", name := "opened", desc := "(Lcom/example/binlease/binlease/model/Server;)V" } : Jvm.MethodName) prog_35_method_4_code (2 : Nat) (Option.none : Option Jvm.ClassFile.FieldType), Jvm.Cond.code ({ cls := "com/example/binlease/binlease/model/Server", name := "hasRoomFor", desc := "(Lcom/example/binlease/binlease/model/Job;)Z" } : Jvm.MethodName) prog_25_method_10_code (3 : Nat) (Option.some Jvm.ClassFile.FieldType.boolean), Jvm.Cond.code ({ cls := "com/example/binlease/binlease/model/Job", name := "size", desc := "(I)J" } : Jvm.MethodName) prog_24_method_11_code (2 : Nat) (Option.some Jvm.ClassFile.FieldType.long), Jvm.Cond.code ({ cls := "com/example/binlease/binlease/model/Server", name := "room", desc := "(I)J" } : Jvm.MethodName) prog_25_method_9_code (2 : Nat) (Option.some Jvm.ClassFile.FieldType.long)]
set_option maxRecDepth 65536 in
theorem codes_eq : words1.filter isCode = codes1 := rfl
theorem w_codes : ∀ c ∈ words1.filter isCode, c.before args0 about1 = true := by
  rw [codes_eq]
  intro c hc
  simp only [codes1, List.mem_cons, List.not_mem_nil, or_false] at hc
  rcases hc with rfl | rfl | rfl | rfl | rfl | rfl | rfl | rfl | rfl | rfl | rfl | rfl
  · exact w_c0
  · exact w_c1
  · exact w_c2
  · exact w_c3
  · exact w_c4
  · exact w_c5
  · exact w_c6
  · exact w_c7
  · exact w_c8
  · exact w_c9
  · exact w_c10
  · exact w_c11
set_option maxRecDepth 65536 in
theorem w_t1 : (words1.take 24).all (fun c => isCode c || c.before args0 about1) = true := by decide +kernel
set_option maxRecDepth 65536 in
theorem w_t2 : ((words1.drop 24).take 24).all (fun c => isCode c || c.before args0 about1) = true := by decide +kernel
set_option maxRecDepth 65536 in
theorem w_t3 : (((words1.drop 24).drop 24).take 24).all (fun c => isCode c || c.before args0 about1) = true := by decide +kernel
set_option maxRecDepth 65536 in
theorem w_t4 : ((((words1.drop 24).drop 24).drop 24).take 24).all (fun c => isCode c || c.before args0 about1) = true := by decide +kernel
set_option maxRecDepth 65536 in
theorem w_t5 : ((((words1.drop 24).drop 24).drop 24).drop 24).all (fun c => isCode c || c.before args0 about1) = true := by decide +kernel
theorem w_tables : (allAtoms (Jvm.Cond.code x code maxLocals ret :: tables_1)).before args0 about1 = true := by
  rw [allAtoms_all]
  show words1.all (fun c => c.before args0 about1) = true
  refine all_split ?_ w_codes
  rw [← List.take_append_drop 24 words1, List.all_append, w_t1, ← List.take_append_drop 24 (words1.drop 24), List.all_append, w_t2, ← List.take_append_drop 24 ((words1.drop 24).drop 24), List.all_append, w_t3, ← List.take_append_drop 24 (((words1.drop 24).drop 24).drop 24), List.all_append, w_t4, w_t5]
  rfl
set_option maxRecDepth 65536 in
theorem w_case : (Jvm.Cond.and given_1 narrow_1).before args0 about1 = true := by decide +kernel
theorem w_applies : (headSpec (Jvm.Cond.code x code maxLocals ret :: tables_1) room_1).applies x e0.platform about1 = true :=
  (Spec.applies_iff w_frames).mpr ⟨w_running, w_runnable, w_alone, w_named, w_hears, w_ripe, w_room, w_tables⟩
theorem atStart : AtStart classFile x code maxLocals ret World_1 tables_1 room_1 Calls_1 rest_1 Pre_1 launch0 p0 e0 about1 theMethod args0 below0 :=
  ⟨lists_1, trivial, launch0.admits_env _ _ _, launch0.least_env, fairChoices_fair.cas, fairChoices_fair.clock, w_frames, w_args, w_heap, w_applies, trivial, trivial, w_case⟩
end start1
theorem witness_1 : WitnessClaimed_1 := ⟨start1.p0, start1.e0, start1.about1, start1.theMethod, start1.args0, start1.below0, start1.atStart⟩
end Jvm.Pilot.@@N@@
