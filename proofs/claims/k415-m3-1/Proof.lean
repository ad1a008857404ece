import JvmDerived
import JvmDerived.Pilot.@@N@@Statement
import JvmDerived.Pilot.@@N@@Code
set_option linter.unusedVariables false
set_option linter.unusedSimpArgs false
namespace Jvm.OwnWalk
open Sem ClassFile Op Lib Jvm.Stand Jvm.Free Jvm.LawKit Jvm.RoadKit
/-- from t the run comes to an end of which P holds -/
def Win (tb : Tables) (e : Env) (below : List Frame) (P : State → Outcome → Prop) (t : State) : Prop :=
  ∃ s₂ o, Steps tb e below t s₂ ∧ s₂.status = .running ∧ Ended s₂ below o ∧ P s₂ o
theorem Win.go {tb : Tables} {e : Env} {below : List Frame} {P : State → Outcome → Prop} {t t' : State} (st : ∀ z, Steps tb e below t' z → Steps tb e below t z) (w : Win tb e below P t') : Win tb e below P t := by
  obtain ⟨s2, o, h, r⟩ := w; exact ⟨s2, o, st _ h, r⟩
theorem Win.come {tb : Tables} {e : Env} {below : List Frame} {P : State → Outcome → Prop} {t t' : State} (st : Steps tb e below t t') (w : Win tb e below P t') : Win tb e below P t := by
  obtain ⟨s2, o, h, r⟩ := w; exact ⟨s2, o, st.trans h, r⟩
/-- the body has returned v with the heap h, L written -/
def PostQ (s : State) (Q : Option Value → Heap → List Loc → Prop) (C S : Nat) (u : State) (o : Outcome) : Prop := ∃ v L, o = .returned v ∧ Q v u.heap L ∧ FrameEnd s o u L C S
section Ret
variable {p : Program} {l : Launch} {e : Env} {R : Room} {s : State} {m : MethodId} {args : Array Value} {below : List Frame} {meth : Method} {c : Code} {T : State} {locs : List Loc} {cells slots : Nat} {h : Heap} {Q : Option Value → Heap → List Loc → Prop} {C S : Nat}
theorem retI' (X : Stand p l e R s m args below meth c T locs cells slots) (hx : p.tables.exec = Jvm.exec) {pc : Nat} {Ls : Array Slot} {z : Int32} {rest : List Value} (hret : meth.sig.returnType = some .int) (hd : decode c.code pc = .ok (.ireturn, 1)) {fs : List Frame}
    (hl : ∀ (f : JFrame) (acts : List Action), f.method = m → f.locked = none → f.entered = [] → (doReturn e (T.setTop f) acts (some (.int z))).1 = T.setFrames fs) : Steps p.tables e below (T.setTop (mkF m pc Ls (.int z :: rest))) (T.setFrames fs) := by
  have hm' : T.vm.method? m = some meth := X.method'
  have hn : narrow .int (.int z) = .int z := rfl
  show Steps p.tables e below (T.setTop { method := m, pc := pc, locals := Ls, stack := _ :: rest, locked := none }) _
  jvm_step X.here [X.here.top, hx, hd, hm', hret, hn]
  first | (intro acts; rw [hl _ acts rfl rfl rfl]) | rw [hl _ _ rfl rfl rfl]
  exact Steps.refl _
theorem retA' (X : Stand p l e R s m args below meth c T locs cells slots) (hx : p.tables.exec = Jvm.exec) {pc : Nat} {Ls : Array Slot} {w : Value} {t : FieldType} (hret : meth.sig.returnType = some t) (ht : t.isReference = true) (hv : w.isRef = true) (hd : decode c.code pc = .ok (.areturn, 1)) {fs : List Frame}
    (hl : ∀ (f : JFrame) (acts : List Action), f.method = m → f.locked = none → f.entered = [] → (doReturn e (T.setTop f) acts (some w)).1 = T.setFrames fs) : Steps p.tables e below (T.setTop (mkF m pc Ls [w])) (T.setFrames fs) := by
  have hm' : T.vm.method? m = some meth := X.method'
  show Steps p.tables e below (T.setTop { method := m, pc := pc, locals := Ls, stack := [w], locked := none }) _
  jvm_step X.here [X.here.top, hx, hd, hm', hret, hv, ht]
  first | (intro acts; rw [hl _ acts rfl rfl rfl]) | rw [hl _ _ rfl rfl rfl]
  exact Steps.refl _
theorem winI (X : Stand p l e R s m args below meth c T locs cells slots) (hx : p.tables.exec = Jvm.exec) (hlk : meth.locks = false) (eT : T.heap = h) {pc : Nat} {Ls : Array Slot} {z : Int32} {rest : List Value} (hret : meth.sig.returnType = some .int) (hd : decode c.code pc = .ok (.ireturn, 1))
    (hc : cells ≤ C) (hs : slots ≤ S) (hQ : Q (some (.int z)) h locs) : Win p.tables e below (PostQ s Q C S) (T.setTop (mkF m pc Ls (.int z :: rest))) := by
  subst eT
  obtain ⟨fs, hr, hrun, hended, hW, hsame⟩ := X.leave (v := some (.int z)) (fun h => by rw [hret] at h; cases h) hlk
  exact ⟨_, _, retI' X hx hret hd hr, hrun, hended, _, _, rfl, hQ, ⟨_, rfl⟩, hW, hsame.mono hc hs⟩
theorem winN (X : Stand p l e R s m args below meth c T locs cells slots) (hx : p.tables.exec = Jvm.exec) (hlk : meth.locks = false) (eT : T.heap = h) {pc : Nat} {Ls : Array Slot} {z z' : Int32} {rest : List Value} {t : FieldType} (hret : meth.sig.returnType = some t) (ht : t = .boolean ∨ t = .byte ∨ t = .char ∨ t = .short) (hd : decode c.code pc = .ok (.ireturn, 1))
    (hc : cells ≤ C) (hs : slots ≤ S) (hz : nar t z = z') (hQ : Q (some (.int z')) h locs) : Win p.tables e below (PostQ s Q C S) (T.setTop (mkF m pc Ls (.int z :: rest))) := by
  subst eT hz
  obtain ⟨fs, hr, hrun, hended, hW, hsame⟩ := X.leave (v := some (.int (nar t z))) (fun h => by rw [hret] at h; cases h) hlk
  exact ⟨_, _, retN X hx hret ht hd hr, hrun, hended, _, _, rfl, hQ, ⟨_, rfl⟩, hW, hsame.mono hc hs⟩
theorem winL (X : Stand p l e R s m args below meth c T locs cells slots) (hx : p.tables.exec = Jvm.exec) (hlk : meth.locks = false) (eT : T.heap = h) {pc : Nat} {Ls : Array Slot} {z : Int64} (hret : meth.sig.returnType = some .long) (hd : decode c.code pc = .ok (.lreturn, 1))
    (hc : cells ≤ C) (hs : slots ≤ S) (hQ : Q (some (.long z)) h locs) : Win p.tables e below (PostQ s Q C S) (T.setTop (mkF m pc Ls [.long z])) := by
  subst eT
  obtain ⟨fs, hr, hrun, hended, hW, hsame⟩ := X.leave (v := some (.long z)) (fun h => by rw [hret] at h; cases h) hlk
  exact ⟨_, _, X.lreturnOut hx hret hd hr, hrun, hended, _, _, rfl, hQ, ⟨_, rfl⟩, hW, hsame.mono hc hs⟩
theorem winA (X : Stand p l e R s m args below meth c T locs cells slots) (hx : p.tables.exec = Jvm.exec) (hlk : meth.locks = false) (eT : T.heap = h) {pc : Nat} {Ls : Array Slot} {w : Value} {t : FieldType} (hret : meth.sig.returnType = some t) (ht : t.isReference = true) (hv : w.isRef = true) (hd : decode c.code pc = .ok (.areturn, 1))
    (hc : cells ≤ C) (hs : slots ≤ S) (hQ : Q (some w) h locs) : Win p.tables e below (PostQ s Q C S) (T.setTop (mkF m pc Ls [w])) := by
  subst eT
  obtain ⟨fs, hr, hrun, hended, hW, hsame⟩ := X.leave (v := some w) (fun h => by rw [hret] at h; cases h) hlk
  exact ⟨_, _, retA' X hx hret ht hv hd hr, hrun, hended, _, _, rfl, hQ, ⟨_, rfl⟩, hW, hsame.mono hc hs⟩
theorem winV (X : Stand p l e R s m args below meth c T locs cells slots) (hx : p.tables.exec = Jvm.exec) (hlk : meth.locks = false) (eT : T.heap = h) {pc : Nat} {Ls : Array Slot} (hret : meth.sig.returnType = none) (hd : decode c.code pc = .ok (.return_, 1))
    (hc : cells ≤ C) (hs : slots ≤ S) (hQ : Q none h locs) : Win p.tables e below (PostQ s Q C S) (T.setTop (mkF m pc Ls [])) := by
  subst eT
  obtain ⟨fs, hr, hrun, hended, hW, hsame⟩ := X.leave (v := none) (fun _ => rfl) hlk
  exact ⟨_, _, X.returnOut hx hret hd hr, hrun, hended, _, _, rfl, hQ, ⟨_, rfl⟩, hW, hsame.mono hc hs⟩
def PostQW (s : State) (Q : Option Value → Heap → List Loc → Prop) (C S : Nat) (u : State) (o : Outcome) : Prop := ∃ v L, o = .returned v ∧ Q v u.heap L ∧ ReturnedEndW s o u L C S
theorem winNW {vm0 : Vm} {k0 : Nat} (hS : s.Since vm0 k0) (hk : k0 ≤ h.size) (X : Stand p l e R (s.setVm vm0) m args below meth c T locs cells slots) (hx : p.tables.exec = Jvm.exec) (hlk : meth.locks = false) (eT : T.heap = h) {pc : Nat} {Ls : Array Slot} {z z' : Int32} {rest : List Value} {t : FieldType} (hret : meth.sig.returnType = some t) (ht : t = .boolean ∨ t = .byte ∨ t = .char ∨ t = .short) (hd : decode c.code pc = .ok (.ireturn, 1))
    (hc : cells ≤ C) (hs : slots ≤ S) (hz : nar t z = z') (hQ : Q (some (.int z')) h locs) : Win p.tables e below (PostQW s Q C S) (T.setTop (mkF m pc Ls (.int z :: rest))) := by
  subst eT hz
  obtain ⟨fs, hr, hrun, hended, h1, h2, h3, h4⟩ := X.leaveW hS hk (v := some (.int (nar t z))) (fun h => by rw [hret] at h; cases h) hlk
  exact ⟨_, _, retN X hx hret ht hd hr, hrun, hended, _, _, rfl, hQ, ⟨_, rfl⟩, h2, h3, h4.mono hc hs⟩
end Ret
section Steps
variable {tb : Tables} [Ours tb] {e : Env} {below : List Frame} {P : State → Outcome → Prop} {T : State} {m : MethodId} {c : Code} {pc pc' : Nat} {ls : Array Slot} {st : List Value}
theorem s_iloadN {k : Fin 4} {v : Int32} (h : At T m c below) (hx : tb.exec = Jvm.exec) (hd : decode c.code pc = .ok (.iload_n k, 1)) (hp : pc + 1 = pc') (hl : ls[k.val]? = some (.val (.int v))) (w : Win tb e below P (T.setTop (mkF m pc' ls (.int v :: st)))) : Win tb e below P (T.setTop (mkF m pc ls st)) := by
  subst hp; exact Win.go (fun _ k => XS.iloadN h hx rfl hd hl k) w
theorem s_iload {k : Nat} {v : Int32} (h : At T m c below) (hx : tb.exec = Jvm.exec) (hd : decode c.code pc = .ok (.iload k, 2)) (hp : pc + 2 = pc') (hl : ls[k]? = some (.val (.int v))) (w : Win tb e below P (T.setTop (mkF m pc' ls (.int v :: st)))) : Win tb e below P (T.setTop (mkF m pc ls st)) := by
  subst hp; exact Win.go (fun _ k => XS.iload h hx rfl hd hl k) w
theorem s_lloadN {k : Fin 4} {v : Int64} (h : At T m c below) (hx : tb.exec = Jvm.exec) (hd : decode c.code pc = .ok (.lload_n k, 1)) (hp : pc + 1 = pc') (hl : ls[k.val]? = some (.val (.long v))) (w : Win tb e below P (T.setTop (mkF m pc' ls (.long v :: st)))) : Win tb e below P (T.setTop (mkF m pc ls st)) := by
  subst hp; exact Win.go (fun _ k => XS.lloadN h hx rfl hd hl k) w
theorem s_lload {k : Nat} {v : Int64} (h : At T m c below) (hx : tb.exec = Jvm.exec) (hd : decode c.code pc = .ok (.lload k, 2)) (hp : pc + 2 = pc') (hl : ls[k]? = some (.val (.long v))) (w : Win tb e below P (T.setTop (mkF m pc' ls (.long v :: st)))) : Win tb e below P (T.setTop (mkF m pc ls st)) := by
  subst hp; exact Win.go (fun _ k => XS.lload h hx rfl hd hl k) w
theorem s_aloadN {k : Fin 4} {v : Value} (h : At T m c below) (hx : tb.exec = Jvm.exec) (hd : decode c.code pc = .ok (.aload_n k, 1)) (hp : pc + 1 = pc') (hl : ls[k.val]? = some (.val v)) (hv : v.isRef = true) (w : Win tb e below P (T.setTop (mkF m pc' ls (v :: st)))) : Win tb e below P (T.setTop (mkF m pc ls st)) := by
  subst hp; exact Win.go (fun _ k => XS.aloadN h hx rfl hd hl hv k) w
theorem s_aload {k : Nat} {v : Value} (h : At T m c below) (hx : tb.exec = Jvm.exec) (hd : decode c.code pc = .ok (.aload k, 2)) (hp : pc + 2 = pc') (hl : ls[k]? = some (.val v)) (hv : v.isRef = true) (w : Win tb e below P (T.setTop (mkF m pc' ls (v :: st)))) : Win tb e below P (T.setTop (mkF m pc ls st)) := by
  subst hp; exact Win.go (fun _ k => XS.aload h hx rfl hd hl hv k) w
theorem s_iadd {x y : Int32} (h : At T m c below) (hx : tb.exec = Jvm.exec) (hd : decode c.code pc = .ok (.iadd, 1)) (hp : pc + 1 = pc') (w : Win tb e below P (T.setTop (mkF m pc' ls (.int (x + y) :: st)))) : Win tb e below P (T.setTop (mkF m pc ls (.int y :: .int x :: st))) := by
  subst hp; exact Win.go (fun _ k => XS.iadd h hx rfl hd rfl k) w
theorem s_isub {x y : Int32} (h : At T m c below) (hx : tb.exec = Jvm.exec) (hd : decode c.code pc = .ok (.isub, 1)) (hp : pc + 1 = pc') (w : Win tb e below P (T.setTop (mkF m pc' ls (.int (x - y) :: st)))) : Win tb e below P (T.setTop (mkF m pc ls (.int y :: .int x :: st))) := by
  subst hp; exact Win.go (fun _ k => XS.isub h hx rfl hd rfl k) w
theorem s_imul {x y : Int32} (h : At T m c below) (hx : tb.exec = Jvm.exec) (hd : decode c.code pc = .ok (.imul, 1)) (hp : pc + 1 = pc') (w : Win tb e below P (T.setTop (mkF m pc' ls (.int (x * y) :: st)))) : Win tb e below P (T.setTop (mkF m pc ls (.int y :: .int x :: st))) := by
  subst hp; exact Win.go (fun _ k => XS.imul h hx rfl hd rfl k) w
theorem s_iand {x y : Int32} (h : At T m c below) (hx : tb.exec = Jvm.exec) (hd : decode c.code pc = .ok (.iand, 1)) (hp : pc + 1 = pc') (w : Win tb e below P (T.setTop (mkF m pc' ls (.int (x &&& y) :: st)))) : Win tb e below P (T.setTop (mkF m pc ls (.int y :: .int x :: st))) := by
  subst hp; exact Win.go (fun _ k => XS.iand h hx rfl hd rfl k) w
theorem s_ior {x y : Int32} (h : At T m c below) (hx : tb.exec = Jvm.exec) (hd : decode c.code pc = .ok (.ior, 1)) (hp : pc + 1 = pc') (w : Win tb e below P (T.setTop (mkF m pc' ls (.int (x ||| y) :: st)))) : Win tb e below P (T.setTop (mkF m pc ls (.int y :: .int x :: st))) := by
  subst hp; exact Win.go (fun _ k => XS.ior h hx rfl hd rfl k) w
theorem s_ixor {x y : Int32} (h : At T m c below) (hx : tb.exec = Jvm.exec) (hd : decode c.code pc = .ok (.ixor, 1)) (hp : pc + 1 = pc') (w : Win tb e below P (T.setTop (mkF m pc' ls (.int (x ^^^ y) :: st)))) : Win tb e below P (T.setTop (mkF m pc ls (.int y :: .int x :: st))) := by
  subst hp; exact Win.go (fun _ k => XS.ixor h hx rfl hd rfl k) w
theorem s_ladd {x y : Int64} (h : At T m c below) (hx : tb.exec = Jvm.exec) (hd : decode c.code pc = .ok (.ladd, 1)) (hp : pc + 1 = pc') (w : Win tb e below P (T.setTop (mkF m pc' ls (.long (x + y) :: st)))) : Win tb e below P (T.setTop (mkF m pc ls (.long y :: .long x :: st))) := by
  subst hp; exact Win.go (fun _ k => XS.ladd h hx rfl hd rfl k) w
theorem s_lsub {x y : Int64} (h : At T m c below) (hx : tb.exec = Jvm.exec) (hd : decode c.code pc = .ok (.lsub, 1)) (hp : pc + 1 = pc') (w : Win tb e below P (T.setTop (mkF m pc' ls (.long (x - y) :: st)))) : Win tb e below P (T.setTop (mkF m pc ls (.long y :: .long x :: st))) := by
  subst hp; exact Win.go (fun _ k => XS.lsub h hx rfl hd rfl k) w
theorem s_lmul {x y : Int64} (h : At T m c below) (hx : tb.exec = Jvm.exec) (hd : decode c.code pc = .ok (.lmul, 1)) (hp : pc + 1 = pc') (w : Win tb e below P (T.setTop (mkF m pc' ls (.long (x * y) :: st)))) : Win tb e below P (T.setTop (mkF m pc ls (.long y :: .long x :: st))) := by
  subst hp; exact Win.go (fun _ k => XS.lmul h hx rfl hd rfl k) w
theorem s_land {x y : Int64} (h : At T m c below) (hx : tb.exec = Jvm.exec) (hd : decode c.code pc = .ok (.land, 1)) (hp : pc + 1 = pc') (w : Win tb e below P (T.setTop (mkF m pc' ls (.long (x &&& y) :: st)))) : Win tb e below P (T.setTop (mkF m pc ls (.long y :: .long x :: st))) := by
  subst hp; exact Win.go (fun _ k => XS.land h hx rfl hd rfl k) w
theorem s_lor {x y : Int64} (h : At T m c below) (hx : tb.exec = Jvm.exec) (hd : decode c.code pc = .ok (.lor, 1)) (hp : pc + 1 = pc') (w : Win tb e below P (T.setTop (mkF m pc' ls (.long (x ||| y) :: st)))) : Win tb e below P (T.setTop (mkF m pc ls (.long y :: .long x :: st))) := by
  subst hp; exact Win.go (fun _ k => XS.lor h hx rfl hd rfl k) w
theorem s_lxor {x y : Int64} (h : At T m c below) (hx : tb.exec = Jvm.exec) (hd : decode c.code pc = .ok (.lxor, 1)) (hp : pc + 1 = pc') (w : Win tb e below P (T.setTop (mkF m pc' ls (.long (x ^^^ y) :: st)))) : Win tb e below P (T.setTop (mkF m pc ls (.long y :: .long x :: st))) := by
  subst hp; exact Win.go (fun _ k => XS.lxor h hx rfl hd rfl k) w
theorem s_iconst {i : Int} {z : Int32} (h : At T m c below) (hx : tb.exec = Jvm.exec) (hd : decode c.code pc = .ok (.iconst i, 1)) (hp : pc + 1 = pc') (hz : Int32.ofInt i = z) (w : Win tb e below P (T.setTop (mkF m pc' ls (.int z :: st)))) : Win tb e below P (T.setTop (mkF m pc ls st)) := by
  subst hp hz; exact Win.go (fun _ k => XS.iconst h hx rfl hd k) w
theorem s_bipush {i : Int} {z : Int32} (h : At T m c below) (hx : tb.exec = Jvm.exec) (hd : decode c.code pc = .ok (.bipush i, 2)) (hp : pc + 2 = pc') (hz : (Int8.ofInt i).toInt32 = z) (w : Win tb e below P (T.setTop (mkF m pc' ls (.int z :: st)))) : Win tb e below P (T.setTop (mkF m pc ls st)) := by
  subst hp hz; exact Win.go (fun _ k => XS.bipush h hx rfl hd k) w
theorem s_sipush {i : Int} {z : Int32} (h : At T m c below) (hx : tb.exec = Jvm.exec) (hd : decode c.code pc = .ok (.sipush i, 3)) (hp : pc + 3 = pc') (hz : (Int16.ofInt i).toInt32 = z) (w : Win tb e below P (T.setTop (mkF m pc' ls (.int z :: st)))) : Win tb e below P (T.setTop (mkF m pc ls st)) := by
  subst hp hz; exact Win.go (fun _ k => XS.sipush h hx rfl hd k) w
theorem s_lconst {i : Fin 2} {z : Int64} (h : At T m c below) (hx : tb.exec = Jvm.exec) (hd : decode c.code pc = .ok (.lconst i, 1)) (hp : pc + 1 = pc') (hz : Int64.ofNat i = z) (w : Win tb e below P (T.setTop (mkF m pc' ls (.long z :: st)))) : Win tb e below P (T.setTop (mkF m pc ls st)) := by
  subst hp hz; exact Win.go (fun _ k => XS.lconst h hx rfl hd k) w
theorem s_goto {o : Int} (h : At T m c below) (hx : tb.exec = Jvm.exec) (hd : decode c.code pc = .ok (.goto o, 3)) (ho : 0 ≤ (pc : Int) + o) (hp : ((pc : Int) + o).toNat = pc') (w : Win tb e below P (T.setTop (mkF m pc' ls st))) : Win tb e below P (T.setTop (mkF m pc ls st)) := by
  exact Win.go (fun _ k => XS.goto h hx rfl rfl hd ho hp k) w
theorem s_icmpYes {cd : ClassFile.Cond} {o : Int} {x y : Int32} (h : At T m c below) (hx : tb.exec = Jvm.exec) (hd : decode c.code pc = .ok (.if_icmp cd o, 3)) (hc : if_icmp.holds cd x y = true) (ho : 0 ≤ (pc : Int) + o) (hp : ((pc : Int) + o).toNat = pc') (w : Win tb e below P (T.setTop (mkF m pc' ls st))) : Win tb e below P (T.setTop (mkF m pc ls (.int y :: .int x :: st))) := by
  exact Win.go (fun _ k => XS.icmpYes h hx rfl rfl hd rfl hc ho hp k) w
theorem s_icmpNo {cd : ClassFile.Cond} {o : Int} {x y : Int32} (h : At T m c below) (hx : tb.exec = Jvm.exec) (hd : decode c.code pc = .ok (.if_icmp cd o, 3)) (hp : pc + 3 = pc') (hc : if_icmp.holds cd x y = false) (w : Win tb e below P (T.setTop (mkF m pc' ls st))) : Win tb e below P (T.setTop (mkF m pc ls (.int y :: .int x :: st))) := by
  subst hp; exact Win.go (fun _ k => XS.icmpNo h hx rfl hd rfl hc k) w
theorem s_ifYes {cd : ClassFile.Cond} {o : Int} {x : Int32} (h : At T m c below) (hx : tb.exec = Jvm.exec) (hd : decode c.code pc = .ok (.ifCond cd o, 3)) (hc : ifCond.holds cd x = true) (ho : 0 ≤ (pc : Int) + o) (hp : ((pc : Int) + o).toNat = pc') (w : Win tb e below P (T.setTop (mkF m pc' ls st))) : Win tb e below P (T.setTop (mkF m pc ls (.int x :: st))) := by
  exact Win.go (fun _ k => XS.ifYes h hx rfl rfl hd rfl hc ho hp k) w
theorem s_ifNo {cd : ClassFile.Cond} {o : Int} {x : Int32} (h : At T m c below) (hx : tb.exec = Jvm.exec) (hd : decode c.code pc = .ok (.ifCond cd o, 3)) (hp : pc + 3 = pc') (hc : ifCond.holds cd x = false) (w : Win tb e below P (T.setTop (mkF m pc' ls st))) : Win tb e below P (T.setTop (mkF m pc ls (.int x :: st))) := by
  subst hp; exact Win.go (fun _ k => XS.ifNo h hx rfl hd rfl hc k) w
theorem s_lcmp {x y : Int64} (h : At T m c below) (hx : tb.exec = Jvm.exec) (hd : decode c.code pc = .ok (.lcmp, 1)) (hp : pc + 1 = pc') (w : Win tb e below P (T.setTop (mkF m pc' ls (.int (lcmpW x y) :: st)))) : Win tb e below P (T.setTop (mkF m pc ls (.long y :: .long x :: st))) := by
  subst hp; exact Win.go (fun _ k => XS.lcmp h hx rfl hd rfl k) w
theorem s_istore {k : Nat} {x : Int32} {l' : Array Slot} (h : At T m c below) (hx : tb.exec = Jvm.exec) (hd : decode c.code pc = .ok (.istore k, 2)) (hp : pc + 2 = pc') (hl : storeLocals ls k (.int x) = some l') (w : Win tb e below P (T.setTop (mkF m pc' l' st))) : Win tb e below P (T.setTop (mkF m pc ls (.int x :: st))) := by
  subst hp; exact Win.go (fun _ k => XS.istore h hx rfl hd rfl hl k) w
theorem s_istoreN {k : Fin 4} {x : Int32} {l' : Array Slot} (h : At T m c below) (hx : tb.exec = Jvm.exec) (hd : decode c.code pc = .ok (.istore_n k, 1)) (hp : pc + 1 = pc') (hl : storeLocals ls k.val (.int x) = some l') (w : Win tb e below P (T.setTop (mkF m pc' l' st))) : Win tb e below P (T.setTop (mkF m pc ls (.int x :: st))) := by
  subst hp; exact Win.go (fun _ k => XS.istoreN h hx rfl hd rfl hl k) w
theorem s_lstore {k : Nat} {x : Int64} {l' : Array Slot} (h : At T m c below) (hx : tb.exec = Jvm.exec) (hd : decode c.code pc = .ok (.lstore k, 2)) (hp : pc + 2 = pc') (hl : storeLocals ls k (.long x) = some l') (w : Win tb e below P (T.setTop (mkF m pc' l' st))) : Win tb e below P (T.setTop (mkF m pc ls (.long x :: st))) := by
  subst hp; exact Win.go (fun _ k => XS.lstore h hx rfl hd rfl hl k) w
theorem s_lstoreN {k : Fin 4} {x : Int64} {l' : Array Slot} (h : At T m c below) (hx : tb.exec = Jvm.exec) (hd : decode c.code pc = .ok (.lstore_n k, 1)) (hp : pc + 1 = pc') (hl : storeLocals ls k.val (.long x) = some l') (w : Win tb e below P (T.setTop (mkF m pc' l' st))) : Win tb e below P (T.setTop (mkF m pc ls (.long x :: st))) := by
  subst hp; exact Win.go (fun _ k => XS.lstoreN h hx rfl hd rfl hl k) w
theorem s_astore {k : Nat} {x : Value} {l' : Array Slot} (h : At T m c below) (hx : tb.exec = Jvm.exec) (hd : decode c.code pc = .ok (.astore k, 2)) (hp : pc + 2 = pc') (hv : x.isRef = true) (hl : storeLocals ls k x = some l') (w : Win tb e below P (T.setTop (mkF m pc' l' st))) : Win tb e below P (T.setTop (mkF m pc ls (x :: st))) := by
  subst hp; exact Win.go (fun _ k => XS.astore h hx rfl hd rfl hv hl k) w
theorem s_astoreN {k : Fin 4} {x : Value} {l' : Array Slot} (h : At T m c below) (hx : tb.exec = Jvm.exec) (hd : decode c.code pc = .ok (.astore_n k, 1)) (hp : pc + 1 = pc') (hv : x.isRef = true) (hl : storeLocals ls k.val x = some l') (w : Win tb e below P (T.setTop (mkF m pc' l' st))) : Win tb e below P (T.setTop (mkF m pc ls (x :: st))) := by
  subst hp; exact Win.go (fun _ k => XS.astoreN h hx rfl hd rfl hv hl k) w
theorem s_dup {x : Value} (h : At T m c below) (hx : tb.exec = Jvm.exec) (hd : decode c.code pc = .ok (.dup, 1)) (hp : pc + 1 = pc') (hc : x.category = 1) (w : Win tb e below P (T.setTop (mkF m pc' ls (x :: x :: st)))) : Win tb e below P (T.setTop (mkF m pc ls (x :: st))) := by
  subst hp; exact Win.go (fun _ k => XS.dup h hx rfl hd rfl hc k) w
end Steps
/-- an array of ints by its places: place j holds f j -/
def AF (Z : State) (h : Heap) (a : Addr) (ty : FieldType) (n : Nat) (f : Int → Int32) : Prop := ∃ cl : Cell, Arr Z h a cl ty ∧ cl.slots.size = n ∧ ∀ j : Int32, 0 ≤ j.toInt → j.toInt < n → cl.slots[j.toNatClampNeg]? = some (.int (f j.toInt))
section AFs
variable {Z : State} {h h' : Heap} {a b : Addr} {ty : FieldType} {n : Nat} {f : Int → Int32} {ws : List Addr} {sl : Nat} {v : Value}
theorem AF.lt (F : AF Z h a ty n f) : a < h.size := by obtain ⟨c, A, -⟩ := F; exact A.lt
theorem AF.ext (F : AF Z h a ty n f) (E : Ext h h') : AF Z h' a ty n f := by obtain ⟨c, A, r⟩ := F; exact ⟨c, A.ext E, r⟩
theorem AF.other (F : AF Z h b ty n f) (W : Wr h h' a sl v) (q : b ≠ a) : AF Z h' b ty n f := by obtain ⟨c, A, r⟩ := F; exact ⟨c, A.other W q, r⟩
theorem AF.keep (F : AF Z h a ty n f) (K : Keep h h' ws) (q : a ∉ ws) : AF Z h' a ty n f := by obtain ⟨c, A, r⟩ := F; exact ⟨c, ⟨K.2.1 a c A.1 q, A.2⟩, r⟩
theorem AF.inb {c : Cell} {j : Int32} (S : c.slots.size = n) (q : 0 ≤ j.toInt ∧ j.toInt < n) : ¬ (j < 0 ∨ c.slots.size ≤ j.toNatClampNeg) := by
  rw [S, Int32.lt_iff_toInt_lt]; have e0 : (0 : Int32).toInt = 0 := rfl
  simp only [Int32.toNatClampNeg]; omega
def updF (f : Int → Int32) (j : Int) (v : Int32) : Int → Int32 := fun i => if i = j then v else f i
theorem updF_hit (f : Int → Int32) (j : Int) (v : Int32) : updF f j v j = v := if_pos rfl
theorem updF_miss {f : Int → Int32} {i j : Int} {v : Int32} (q : i ≠ j) : updF f j v i = f i := if_neg q
theorem AF.set {cl : Cell} {j v : Int32} (A : Arr Z h a cl ty) (S : cl.slots.size = n) (G : ∀ j : Int32, 0 ≤ j.toInt → j.toInt < n → cl.slots[j.toNatClampNeg]? = some (.int (f j.toInt))) (W : Wr h h' a j.toNatClampNeg (.int v)) (q : 0 ≤ j.toInt ∧ j.toInt < n) : AF Z h' a ty n (updF f j.toInt v) := by
  have e0 : (0 : Int32).toInt = 0 := rfl
  refine ⟨_, A.same W, by rw [sz_set]; exact S, fun k h0 h1 => ?_⟩
  by_cases e : k = j
  · subst e; rw [get_hit (AF.inb S q) rfl, updF_hit]
  · rw [get_miss (by rw [Int32.lt_iff_toInt_lt]; omega) (by rw [Int32.lt_iff_toInt_lt]; omega) e, updF_miss (fun z => e (Int32.toInt_inj.mp z))]; exact G k h0 h1
theorem AF.zero {k : ClassId} {z : Int32} (F : Arv Z h a k ty z [] (.int 0)) (q : z.toNatClampNeg = n) : AF Z h a ty n (fun _ => 0) := by
  obtain ⟨c, A, -, S, -, H, -⟩ := F
  refine ⟨c, A, S.trans q, fun j h0 h1 => ?_⟩
  have e : j.toNatClampNeg = j.toInt.toNat := rfl
  exact H _ (by rw [S, q, e]; omega)
theorem AF.ex {k : ClassId} {z : Int32} {vs : List Value} {dv : Value} (F : Arv Z h a k .byte z vs dv) (q : z.toNatClampNeg = n) : ∃ f, AF Z h a .byte n f := by
  obtain ⟨c, A, -, S, -, H, G⟩ := F
  refine ⟨fun i => match c.slots[i.toNat]? with | some (.int x) => x | _ => 0, c, A, S.trans q, fun j h0 h1 => ?_⟩
  have e : j.toNatClampNeg = j.toInt.toNat := rfl
  have hj : j.toInt.toNat < c.slots.size := by rw [S, q]; omega
  have e1 := H _ hj
  have e2 := G _ hj
  show c.slots[j.toInt.toNat]? = some (.int (match c.slots[j.toInt.toNat]? with | some (.int x) => x | _ => 0))
  cases hv : vs.getD j.toInt.toNat dv <;> rw [hv] at e1 e2 <;> first | (rw [e1]; done) | (exact absurd e2 (by simp [fits]))
/-- a byte array of length z -/
def BA (Z : State) (h : Heap) (a : Addr) (z : Int32) : Prop := ∃ (k : ClassId) (vs : List Value), Arv Z h a k .byte z vs (.int 0)
variable {z : Int32}
theorem BA.lt (F : BA Z h a z) : a < h.size := by obtain ⟨_, _, A⟩ := F; exact A.lt
theorem BA.ext (F : BA Z h a z) (E : Ext h h') : BA Z h' a z := by obtain ⟨k, vs, A⟩ := F; exact ⟨k, vs, A.ext E⟩
theorem BA.other (F : BA Z h b z) (W : Wr h h' a sl v) (q : b ≠ a) : BA Z h' b z := by obtain ⟨k, vs, A⟩ := F; exact ⟨k, vs, A.other W q⟩
theorem BA.keep (F : BA Z h a z) (K : Keep h h' ws) (q : a ∉ ws) : BA Z h' a z := by obtain ⟨k, vs, A⟩ := F; exact ⟨k, vs, A.keep K q⟩
theorem cpBA {p : Program} {l : Launch} {e : Env} {R : Room} {s : State} {m : MethodId} {args : Array Value} {below : List Frame} {meth : Method} {c : Code} {T : State} {locs : List Loc} {cells slots : Nat}
    (X : Stand p l e R s m args below meth c T locs cells slots) (hx : p.tables.exec = Jvm.exec) (hZ : Z.Warmed39 s.vm) {a0 : Array Value} {own : String} {index : Nat} (hown : s.vm.findClass own = some m.cls)
    (w1 : (Cond.methodLink own index Jvm.Stand.acN).before a0 Z = true) (w2 : (Cond.native Jvm.Stand.acN).before a0 Z = true) (w3 : (Cond.static Jvm.Stand.acN).before a0 Z = true) (w4 : (Cond.initialized "java/lang/System").before a0 Z = true) (eT : T.heap = h)
    {z' sp dp nn : Int32} (A : BA Z h a z) (B : BA Z h b z') (h1 : 0 ≤ sp.toInt) (h2 : 0 ≤ dp.toInt) (h3 : 0 ≤ nn.toInt) (h4 : sp.toInt + nn.toInt ≤ z.toInt) (h5 : dp.toInt + nn.toInt ≤ z'.toInt) {n0 : Nat} (N : Fr n0 locs) (ge : n0 ≤ b)
    {g : JFrame} (hg : g.method = m) (hsize : g.locals.size = c.maxLocals) {rest : List Value} (hs : g.stack = .int nn :: .int dp :: .ref b :: .int sp :: .ref a :: rest) (hd : decode c.code g.pc = .ok (.invokestatic index, 3))
    (hf : 1 ≤ R.frames) {W : Nat} (hW : 2 * g.monitorRoom + (rest.map fun v => v.category).sum ≤ W) (hlo : W + (nativeFrameWords "java/lang/System" "arraycopy" 5 + 11) ≤ R.locals) :
    ∃ T' h' L, Stand p l e R s m args below meth c T' L cells slots ∧ T'.heap = h' ∧ Fr n0 L ∧ Keep h h' [b] ∧ BA Z h' b z' ∧
      ∀ target, Steps p.tables e below (T'.setTop { g with pc := g.pc + 3, stack := rest }) target → Steps p.tables e below (T.setTop g) target := by
  have e0 : (0 : Int32).toInt = 0 := rfl
  obtain ⟨k, vs, A⟩ := A
  obtain ⟨k', vd, B⟩ := B
  have B' := B.pad (pad_rep vd (.int 0) z'.toNatClampNeg)
  obtain ⟨T', h', L, X', e', N', K, B2, st⟩ := cpA X hx hZ hown w1 w2 w3 w4 eT A B' (Or.inl ⟨rfl, rfl⟩) (by rw [Int32.lt_iff_toInt_lt]; omega) (by rw [Int32.lt_iff_toInt_lt]; omega) (by rw [Int32.lt_iff_toInt_lt]; omega) (by simp only [Int32.toNatClampNeg]; omega) (by simp only [Int32.toNatClampNeg]; omega) rfl (by simp only [List.length_append, List.length_replicate, Int32.toNatClampNeg]; omega) N ge hg hsize hs hd hf hW hlo
  exact ⟨T', h', L, X', e', N', K, ⟨k', _, B2⟩, st⟩
end AFs
theorem own_selPriv {s : State} {args : Array Value} {y y' : MethodName} (hn : y.cls = y'.cls) (w : (Cond.selects y'.cls y' y').before args s = true) (hpriv : s.PrivateAt y) (hinst : (Cond.instanceMethod y).before args s = true) (hy : y.cls ≠ "java/lang/invoke/MethodHandle" ∧ y.cls ≠ "java/lang/invoke/VarHandle") : (Cond.selects y.cls y y).before args s = true := by
  obtain ⟨c, r, m, h1, -, h3, -, k, h5, h6⟩ := Cond.selects_spec w
  have h7 := findClass_of_methodNamed h3
  cases h1.symm.trans h7
  exact selects_self_of_private (by rw [hn]; exact h7) h5 h6 hpriv hinst hy
theorem own_lremEq (x y : Int64) : x - (x / y) * y = x % y := by
  refine Int64.toInt_inj.mp ?_
  have h1 := rng64 (x % y)
  have e : x.toInt - x.toInt.tdiv y.toInt * y.toInt = (x % y).toInt := by rw [Int64.toInt_mod, Int.tmod_def, Int.mul_comm]
  rw [Int64.toInt_sub, Int64.toInt_mul, Int64.toInt_div, Int.bmod_mul_bmod, Int.sub_bmod_bmod, e]
  exact Int.bmod_eq_of_le_mul_two (by omega) (by omega)
theorem lremM {p : Program} {l : Launch} {e : Env} {R : Room} {s : State} {m : MethodId} {args : Array Value} {below : List Frame} {meth : Method} {c : Code} {T : State} {locs : List Loc} {cells slots : Nat} {g : JFrame} {target : State} (X : Stand p l e R s m args below meth c T locs cells slots) (hx : p.tables.exec = Jvm.exec) (hg : g.method = m) {x y : Int64} {rest : List Value} (hd : decode c.code g.pc = .ok (.lrem, 1)) (hs : g.stack = .long y :: .long x :: rest) (hy : y ≠ 0)
    (hr : Steps p.tables e below (T.setTop { g with pc := g.pc + 1, stack := .long (x % y) :: rest }) target) : Steps p.tables e below (T.setTop g) target :=
  XS.lrem X.here hx hg hd hs hy (by rw [own_lremEq]; exact hr)
/-! comparisons by the numbers -/
theorem tltI {x y : Int32} (h : x.toInt < y.toInt) : if_icmp.holds .lt x y = true ∧ if_icmp.holds .ge x y = false ∧ if_icmp.holds .gt y x = true ∧ if_icmp.holds .le y x = false := tlt (Int32.lt_iff_toInt_lt.mpr h)
theorem fltI {x y : Int32} (h : ¬ x.toInt < y.toInt) : if_icmp.holds .lt x y = false ∧ if_icmp.holds .ge x y = true ∧ if_icmp.holds .gt y x = false ∧ if_icmp.holds .le y x = true := flt (fun q => h (Int32.lt_iff_toInt_lt.mp q))
theorem teqI {x y : Int32} (h : x.toInt = y.toInt) : if_icmp.holds .eq x y = true ∧ if_icmp.holds .ne x y = false := teq (Int32.toInt_inj.mp h)
theorem feqI {x y : Int32} (h : ¬ x.toInt = y.toInt) : if_icmp.holds .eq x y = false ∧ if_icmp.holds .ne x y = true := feq (fun q => h (congrArg _ q))
theorem tltZ {x y : Int32} (h : x.toInt < y.toInt) : (y = 0 → ifCond.holds .lt x = true ∧ ifCond.holds .ge x = false) ∧ (x = 0 → ifCond.holds .gt y = true ∧ ifCond.holds .le y = false) :=
  ⟨fun q => by subst q; exact ⟨(if0 _ _).trans (tltI h).1, (if0 _ _).trans (tltI h).2.1⟩, fun q => by subst q; exact ⟨(if0 _ _).trans (tltI h).2.2.1, (if0 _ _).trans (tltI h).2.2.2⟩⟩
theorem tltL {x y : Int64} (h : x.toInt < y.toInt) : ifCond.holds .lt (lcmpW x y) = true ∧ ifCond.holds .ge (lcmpW x y) = false ∧ ifCond.holds .gt (lcmpW y x) = true ∧ ifCond.holds .le (lcmpW y x) = false :=
  have h' := Int64.lt_iff_toInt_lt.mpr h
  ⟨(if0 _ _).trans (tlt ((lw_lt x y).mpr h')).1, (if0 _ _).trans (tlt ((lw_lt x y).mpr h')).2.1, (if0 _ _).trans (tlt ((lw_gt y x).mpr h')).2.2.1, (if0 _ _).trans (tlt ((lw_gt y x).mpr h')).2.2.2⟩
theorem fltL {x y : Int64} (h : ¬ x.toInt < y.toInt) : ifCond.holds .lt (lcmpW x y) = false ∧ ifCond.holds .ge (lcmpW x y) = true ∧ ifCond.holds .gt (lcmpW y x) = false ∧ ifCond.holds .le (lcmpW y x) = true :=
  have h1 : ¬ lcmpW x y < 0 := fun q => h (Int64.lt_iff_toInt_lt.mp ((lw_lt x y).mp q))
  have h2 : ¬ 0 < lcmpW y x := fun q => h (Int64.lt_iff_toInt_lt.mp ((lw_gt y x).mp q))
  ⟨(if0 _ _).trans (flt h1).1, (if0 _ _).trans (flt h1).2.1, (if0 _ _).trans (flt h2).2.2.1, (if0 _ _).trans (flt h2).2.2.2⟩
theorem teqL {x y : Int64} (h : x.toInt = y.toInt) : ifCond.holds .eq (lcmpW x y) = true ∧ ifCond.holds .ne (lcmpW x y) = false :=
  have h' := (lw_eq x y).mpr (Int64.toInt_inj.mp h)
  ⟨(if0 _ _).trans (teq h').1, (if0 _ _).trans (teq h').2⟩
theorem feqL {x y : Int64} (h : ¬ x.toInt = y.toInt) : ifCond.holds .eq (lcmpW x y) = false ∧ ifCond.holds .ne (lcmpW x y) = true :=
  have h' : ¬ lcmpW x y = 0 := fun q => h (congrArg _ ((lw_eq x y).mp q))
  ⟨(if0 _ _).trans (feq h').1, (if0 _ _).trans (feq h').2⟩
end Jvm.OwnWalk
namespace Jvm.Pilot.@@N@@
open Jvm Jvm.ClassFile Sem Op Lib Jvm.Free Jvm.Stand Jvm.LawKit Jvm.RoadKit Bundle Jvm.OwnWalk Jvm.Pilot.@@N@@.Jvm.D
theorem own_fin {v : Int32} {N : Nat} (h0 : 0 ≤ v.toInt) (h1 : v.toInt < N) : ∃ k : Fin N, v = Int32.ofNat k.val := by
  refine ⟨⟨v.toInt.toNat, by omega⟩, Int32.toInt_inj.mp ?_⟩
  have := v.toInt_lt
  rw [Int32.toInt_ofNat_of_lt (by simp only; omega)]; simp only; omega
theorem own_four {v : Int32} (h0 : 0 ≤ v.toInt) (h1 : v.toInt ≤ 3) : v = 0 ∨ v = 1 ∨ v = 2 ∨ v = 3 := by
  have e : ∀ k : Int32, v.toInt = k.toInt → v = k := fun k q => Int32.toInt_inj.mp q
  have : v.toInt = 0 ∨ v.toInt = 1 ∨ v.toInt = 2 ∨ v.toInt = 3 := by omega
  rcases this with q | q | q | q
  · exact Or.inl (e 0 q)
  · exact Or.inr (Or.inl (e 1 q))
  · exact Or.inr (Or.inr (Or.inl (e 2 q)))
  · exact Or.inr (Or.inr (Or.inr (e 3 q)))
theorem own_two (x : Int32) : (x &&& 2 = 0 ∧ (XT.ushr x (1 : Int32)) &&& 1 = 0) ∨ (x &&& 2 = 2 ∧ (XT.ushr x (1 : Int32)) &&& 1 = 1) := by
  have e1 : x.toBitVec &&& 2#32 = if x.toBitVec.getLsbD 1 then BitVec.twoPow 32 1 else 0#32 := BitVec.and_twoPow x.toBitVec 1
  have e2 : (x.toBitVec >>> 1) &&& 1#32 = if (x.toBitVec >>> 1).getLsbD 0 then BitVec.twoPow 32 0 else 0#32 := BitVec.and_twoPow (x.toBitVec >>> 1) 0
  rw [BitVec.getLsbD_ushiftRight] at e2
  cases hb : x.toBitVec.getLsbD 1 <;> rw [hb] at e1 e2
  · exact Or.inl ⟨Int32.toBitVec_inj.mp e1, Int32.toBitVec_inj.mp e2⟩
  · exact Or.inr ⟨Int32.toBitVec_inj.mp e1, Int32.toBitVec_inj.mp e2⟩
theorem own_on (x : Int32) : ((x ||| 2) &&& 2).toInt = 2 := by
  have : (x ||| 2) &&& 2 = 2 := by
    apply Int32.toBitVec_inj.mp
    show (x.toBitVec ||| 2#32) &&& 2#32 = 2#32
    ext i hi; simp
    cases x.toBitVec[i] <;> simp
  rw [this]; rfl
theorem own_off (x : Int32) : ((x &&& (-3)) &&& 2).toInt = 0 := by
  rw [Int32.and_assoc, show ((-3 : Int32) &&& 2) = 0 from by decide, Int32.and_zero]; rfl
theorem d2_0 : decode jdk_30_method_1_code 0 = .ok (.aload_n 0, 1) := by decide +kernel
theorem d2_1 : decode jdk_30_method_1_code 1 = .ok (.invokespecial 1, 3) := by decide +kernel
theorem d2_4 : decode jdk_30_method_1_code 4 = .ok (.return_, 1) := by decide +kernel
theorem pn_2 : plainName "java/lang/Record" = true := by first | (simp [plainName, overriddenIn]; done) | decide +kernel
theorem ef_2 (m : MethodId) (a : Addr) : entryFrame m #[(.ref a)] 1 = mkF m 0 #[.val (.ref a)] [] := by first | (simp [entryFrame, mkF, argsToLocals, Value.category]; done) | rfl
def Q2 (Z : State) (a : Addr) (h0 : Heap) (n0 : Nat) (v : Option Value) (h : Heap) (L : List Loc) : Prop := Fr n0 L ∧ h = h0 ∧ v = none
set_option maxRecDepth 65536 in
set_option maxHeartbeats 40000000 in
theorem rm2 (l : Launch) (Z : State) (a0 : Array Value) (hw : ∀ d ∈ tables_1, d.before a0 Z = true) (ws : List Jvm.Cond) (a : Addr) (h0 : Heap) (n0 : Nat) (Zs : n0 ≤ h0.size) :
    MetFree l (⟨"java/lang/Record", "<init>", "()V"⟩ : MethodName) (head1 (Jvm.Cond.code (⟨"java/lang/Record", "<init>", "()V"⟩ : MethodName) jdk_30_method_1_code 1 none :: ws) ({ frames := 1, cells := 0, slots := 0, locals := 12 } : Room)) (fun as' U => as' = #[(.ref a)] ∧ Z.Warmed39 U.vm ∧ U.heap = h0) (fun _ _ _ _ _ => True) (fun _ U o U' => ∃ v L, o = .returned v ∧ Q2 Z a h0 n0 v U'.heap L ∧ FrameEnd U o U' L ({ frames := 1, cells := 0, slots := 0, locals := 12 } : Room).cells ({ frames := 1, cells := 0, slots := 0, locals := 12 } : Room).slots) := by
  refine MetFree.of_bodySF (plainFor_of_name pn_2) hisR ?_
  intro p e s m args below meth c s₁ Bd hml0 hP hK
  obtain ⟨rfl, hZ, hh⟩ := hP
  have hx := Bd.exec
  have hby := Bd.bytes
  have hml : c.maxLocals = 1 := hml0
  have hown : s.vm.findClass "java/lang/Record" = some m.cls := findClass_of_methodNamed Bd.named
  have hnm := (name_of_methodNamed Bd.named Bd.method).1
  have hlk : meth.locks = false := Bd.notSynchronized
  have X0 : Stand p l e ({ frames := 1, cells := 0, slots := 0, locals := 12 } : Room) s m #[(.ref a)] below meth c s₁ [] 0 0 := Stand.of_body Bd
  have e0 : s₁.heap = h0 := by rw [← hh, Bd.state]; rfl
  have Nf := Fr.nil n0
  refine (?_ : Win p.tables e below (PostQ s (Q2 Z a h0 n0) ({ frames := 1, cells := 0, slots := 0, locals := 12 } : Room).cells ({ frames := 1, cells := 0, slots := 0, locals := 12 } : Room).slots) (s₁.setTop (entryFrame m #[(.ref a)] 1)))
  rw [ef_2]
  show Win p.tables e below _ (s₁.setTop (mkF m 0 #[.val (.ref a)] []))
  refine s_aloadN (pc' := 1) X0.here hx (hb hby d2_0) rfl rfl rfl ?_
  obtain ⟨T_1, X_1, e_1, st_1⟩ := initO X0 hx hZ hown (hw _ (List.mem_of_getElem? (i := 12) rfl)) (hw _ (List.mem_of_getElem? (i := 13) rfl)) (hw _ (List.mem_of_getElem? (i := 14) rfl)) e0 (g := (mkF m 1 #[.val (.ref a)] [(.ref a)])) rfl (by rw [hml]; rfl) rfl (hb hby d2_1) (by decide) (W := 0) (by show 2 * 0 + _ ≤ _; exact Nat.le_of_eq rfl) (by decide)
  refine Win.go st_1 ?_
  clear st_1 X0 e0
  show Win p.tables e below _ (T_1.setTop (mkF m 4 #[.val (.ref a)] []))
  refine winV X_1 hx hlk e_1 Bd.returns (hb hby d2_4) (by decide) (by decide) ?_
  exact ⟨Nf, rfl, rfl⟩
theorem d1_0 : decode prog_93_method_1_code 0 = .ok (.aload_n 0, 1) := by decide +kernel
theorem d1_1 : decode prog_93_method_1_code 1 = .ok (.invokespecial 5, 3) := by decide +kernel
theorem d1_4 : decode prog_93_method_1_code 4 = .ok (.aload 6, 2) := by decide +kernel
theorem d1_6 : decode prog_93_method_1_code 6 = .ok (.invokevirtual 11, 3) := by decide +kernel
theorem d1_9 : decode prog_93_method_1_code 9 = .ok (.checkcast 12, 3) := by decide +kernel
theorem d1_12 : decode prog_93_method_1_code 12 = .ok (.astore 6, 2) := by decide +kernel
theorem d1_14 : decode prog_93_method_1_code 14 = .ok (.aload_n 0, 1) := by decide +kernel
theorem d1_15 : decode prog_93_method_1_code 15 = .ok (.iload_n 1, 1) := by decide +kernel
theorem d1_16 : decode prog_93_method_1_code 16 = .ok (.putfield 17, 3) := by decide +kernel
theorem d1_19 : decode prog_93_method_1_code 19 = .ok (.aload_n 0, 1) := by decide +kernel
theorem d1_20 : decode prog_93_method_1_code 20 = .ok (.iload_n 2, 1) := by decide +kernel
theorem d1_21 : decode prog_93_method_1_code 21 = .ok (.putfield 21, 3) := by decide +kernel
theorem d1_24 : decode prog_93_method_1_code 24 = .ok (.aload_n 0, 1) := by decide +kernel
theorem d1_25 : decode prog_93_method_1_code 25 = .ok (.iload_n 3, 1) := by decide +kernel
theorem d1_26 : decode prog_93_method_1_code 26 = .ok (.putfield 24, 3) := by decide +kernel
theorem d1_29 : decode prog_93_method_1_code 29 = .ok (.aload_n 0, 1) := by decide +kernel
theorem d1_30 : decode prog_93_method_1_code 30 = .ok (.iload 4, 2) := by decide +kernel
theorem d1_32 : decode prog_93_method_1_code 32 = .ok (.putfield 27, 3) := by decide +kernel
theorem d1_35 : decode prog_93_method_1_code 35 = .ok (.aload_n 0, 1) := by decide +kernel
theorem d1_36 : decode prog_93_method_1_code 36 = .ok (.iload 5, 2) := by decide +kernel
theorem d1_38 : decode prog_93_method_1_code 38 = .ok (.putfield 30, 3) := by decide +kernel
theorem d1_41 : decode prog_93_method_1_code 41 = .ok (.aload_n 0, 1) := by decide +kernel
theorem d1_42 : decode prog_93_method_1_code 42 = .ok (.aload 6, 2) := by decide +kernel
theorem d1_44 : decode prog_93_method_1_code 44 = .ok (.putfield 33, 3) := by decide +kernel
theorem d1_47 : decode prog_93_method_1_code 47 = .ok (.return_, 1) := by decide +kernel
theorem pn_1 : plainName "com/example/pointcode/pointcode/sctp/DataChunk" = true := by first | (simp [plainName, overriddenIn]; done) | decide +kernel
theorem pd_0 : parseMethodDescriptor "()V" = some ⟨[], none⟩ := by decide +kernel
theorem ef_1_0 (m : MethodId) (a : Addr) (p1 : Int32) (p2 : Int32) (p3 : Int32) (p4 : Int32) (p5 : Int32) (b : Addr) : entryFrame m #[(.ref a), (.int p1), (.int p2), (.int p3), (.int p4), (.int p5), (.ref b)] 7 = mkF m 0 #[.val (.ref a), .val (.int p1), .val (.int p2), .val (.int p3), .val (.int p4), .val (.int p5), .val (.ref b)] [] := by first | (simp [entryFrame, mkF, argsToLocals, Value.category]; done) | rfl
def Q1_0 (Z : State) (a : Addr) (p1 : Int32) (p2 : Int32) (p3 : Int32) (p4 : Int32) (p5 : Int32) (b : Addr) (kk : ClassId) (h0 : Heap) (n0 : Nat) (v : Option Value) (h : Heap) (L : List Loc) : Prop := Fr n0 L ∧ Keep h0 h [a] ∧ Fld Z h a "com/example/pointcode/pointcode/sctp/DataChunk" "flags" "I" (.int p1) ∧ v = none
set_option maxRecDepth 65536 in
set_option maxHeartbeats 40000000 in
theorem rm1_0 (l : Launch) (Z : State) (a0 : Array Value) (hw : ∀ d ∈ tables_1, d.before a0 Z = true) (ws : List Jvm.Cond) (a : Addr) (p1 : Int32) (p2 : Int32) (p3 : Int32) (p4 : Int32) (p5 : Int32) (b : Addr) (kk : ClassId) (h0 : Heap) (n0 : Nat) (Zs : n0 ≤ h0.size) (E_a : Exa Z h0 a "com/example/pointcode/pointcode/sctp/DataChunk") (F_flags_a : Fld Z h0 a "com/example/pointcode/pointcode/sctp/DataChunk" "flags" "I" (.int (0 : Int32))) (F_tsn_a : Fld Z h0 a "com/example/pointcode/pointcode/sctp/DataChunk" "tsn" "I" (.int (0 : Int32))) (F_stream_a : Fld Z h0 a "com/example/pointcode/pointcode/sctp/DataChunk" "stream" "I" (.int (0 : Int32))) (F_streamSequence_a : Fld Z h0 a "com/example/pointcode/pointcode/sctp/DataChunk" "streamSequence" "I" (.int (0 : Int32))) (F_payloadProtocol_a : Fld Z h0 a "com/example/pointcode/pointcode/sctp/DataChunk" "payloadProtocol" "I" (.int (0 : Int32))) (F_payload_a : Fld Z h0 a "com/example/pointcode/pointcode/sctp/DataChunk" "payload" "[B" .null) (g_a : n0 ≤ a) (E_b : Exa Z h0 b "[B") (V_b : Arv Z h0 b kk .byte (0 : Int32) [] (.int (0 : Int32))) (ne_b_a : b ≠ a) :
    MetFree l (⟨"com/example/pointcode/pointcode/sctp/DataChunk", "<init>", "(IIIII[B)V"⟩ : MethodName) (head1 (Jvm.Cond.code (⟨"com/example/pointcode/pointcode/sctp/DataChunk", "<init>", "(IIIII[B)V"⟩ : MethodName) prog_93_method_1_code 7 none :: ws) ({ frames := 2, cells := 1, slots := 0, locals := 24 } : Room)) (fun as' U => as' = #[(.ref a), (.int p1), (.int p2), (.int p3), (.int p4), (.int p5), (.ref b)] ∧ Z.Warmed39 U.vm ∧ U.heap = h0) (fun _ _ _ _ _ => True) (fun _ U o U' => ∃ v L, o = .returned v ∧ Q1_0 Z a p1 p2 p3 p4 p5 b kk h0 n0 v U'.heap L ∧ FrameEnd U o U' L ({ frames := 2, cells := 1, slots := 0, locals := 24 } : Room).cells ({ frames := 2, cells := 1, slots := 0, locals := 24 } : Room).slots) := by
  refine MetFree.of_bodySF (plainFor_of_name pn_1) hisR ?_
  intro p e s m args below meth c s₁ Bd hml0 hP hK
  obtain ⟨rfl, hZ, hh⟩ := hP
  have hx := Bd.exec
  have hby := Bd.bytes
  have hml : c.maxLocals = 7 := hml0
  have hown : s.vm.findClass "com/example/pointcode/pointcode/sctp/DataChunk" = some m.cls := findClass_of_methodNamed Bd.named
  have hnm := (name_of_methodNamed Bd.named Bd.method).1
  have hlk : meth.locks = false := Bd.notSynchronized
  have X0 : Stand p l e ({ frames := 2, cells := 1, slots := 0, locals := 24 } : Room) s m #[(.ref a), (.int p1), (.int p2), (.int p3), (.int p4), (.int p5), (.ref b)] below meth c s₁ [] 0 0 := Stand.of_body Bd
  have e0 : s₁.heap = h0 := by rw [← hh, Bd.state]; rfl
  have Nf := Fr.nil n0
  refine (?_ : Win p.tables e below (PostQ s (Q1_0 Z a p1 p2 p3 p4 p5 b kk h0 n0) ({ frames := 2, cells := 1, slots := 0, locals := 24 } : Room).cells ({ frames := 2, cells := 1, slots := 0, locals := 24 } : Room).slots) (s₁.setTop (entryFrame m #[(.ref a), (.int p1), (.int p2), (.int p3), (.int p4), (.int p5), (.ref b)] 7)))
  rw [ef_1_0]
  have Kp : Keep h0 h0 [a] := Keep.refl h0 _
  have lt_a : a < h0.size := E_a.lt
  have lt_b : b < h0.size := E_b.lt
  show Win p.tables e below _ (s₁.setTop (mkF m 0 #[.val (.ref a), .val (.int p1), .val (.int p2), .val (.int p3), .val (.int p4), .val (.int p5), .val (.ref b)] []))
  refine s_aloadN (pc' := 1) X0.here hx (hb hby d1_0) rfl rfl rfl ?_
  obtain ⟨_, _, ⟨T_2, L_2, k_2, n_2⟩, -, X_2, ⟨Lc_2, hQ_2, l_2, y_2, z_2⟩, st_2⟩ := X0.specialBack hx (y := (⟨"java/lang/Record", "<init>", "()V"⟩ : MethodName)) rfl hown (mvT hZ (hw _ (List.mem_of_getElem? (i := 7) rfl))) (mvT hZ (hw _ (List.mem_of_getElem? (i := 8) rfl))) (mvT hZ (hw _ (List.mem_of_getElem? (i := 11) rfl))) (by decide) (backOf (W := 0) (rm2 l Z a0 hw [] a h0 n0 Zs ) hZ (hw _ (List.mem_of_getElem? (i := 11) rfl)) (hw _ (List.mem_of_getElem? (i := 10) rfl)) (by decide) (by decide)) (g := (mkF m 1 #[.val (.ref a), .val (.int p1), .val (.int p2), .val (.int p3), .val (.int p4), .val (.int p5), .val (.ref b)] [(.ref a)])) rfl (by rw [hml]; rfl) (Steps.refl _) (a := a) (argsL := []) (rest := []) (lenOf pd_0 rfl) rfl (by show 2 * 0 + _ ≤ _; exact Nat.le_of_eq rfl) (hb hby d1_1) (fun _ _ => ⟨rfl, e0, (by decide : 0 + 0 ≤ _), (by decide : 0 + 0 ≤ _)⟩)
  dsimp only [Pt.U, Pt.locs, Pt.cells, Pt.slots] at X_2 l_2 y_2 z_2 st_2 hQ_2
  subst l_2 y_2 z_2
  obtain ⟨Nq_2, e_2, rfl⟩ := hQ_2
  replace Nf := Fr.app Nf Nq_2
  refine Win.come st_2 ?_
  clear st_2 Nq_2 X0 e0
  show Win p.tables e below _ (T_2.setTop (mkF m 4 #[.val (.ref a), .val (.int p1), .val (.int p2), .val (.int p3), .val (.int p4), .val (.int p5), .val (.ref b)] []))
  refine s_aload (pc' := 6) X_2.here hx (hb hby d1_4) rfl rfl rfl ?_
  obtain ⟨T_3, h_3, X_3, e_3, Ex_3, A_3, EA_3, st_3⟩ := cloneH X_2 hx hZ hown (hw _ (List.mem_of_getElem? (i := 15) rfl)) (hw _ (List.mem_of_getElem? (i := 16) rfl)) (hw _ (List.mem_of_getElem? (i := 20) rfl)) (hw _ (List.mem_of_getElem? (i := 18) rfl)) (hw _ (List.mem_of_getElem? (i := 19) rfl)) (hw _ (List.mem_of_getElem? (i := 21) rfl)) e_2 (Arv.arh V_b) E_b (g := (mkF m 6 #[.val (.ref a), .val (.int p1), .val (.int p2), .val (.int p3), .val (.int p4), .val (.int p5), .val (.ref b)] [(.ref b)])) rfl (by rw [hml]; rfl) rfl (hb hby d1_6) (by decide) (W := 0) (by show 2 * 0 + _ ≤ _; exact Nat.le_of_eq rfl) (by decide) (cap := 0) (by decide) (by decide) (by decide)
  obtain ⟨b_3, g_3⟩ : ∃ z, z = h0.size := ⟨_, rfl⟩
  have ne_a_b_3 : a ≠ b_3 := Nat.ne_of_lt (Nat.lt_of_lt_of_le lt_a (Nat.le_of_eq g_3.symm))
  have ne_b_b_3 : b ≠ b_3 := Nat.ne_of_lt (Nat.lt_of_lt_of_le lt_b (Nat.le_of_eq g_3.symm))
  have g_b_3 : n0 ≤ b_3 := Nat.le_trans Zs (Nat.le_of_eq g_3.symm)
  have sz_b_3 : h0.size ≤ b_3 := Nat.le_trans Kp.1 (Nat.le_of_eq g_3.symm)
  rw [← g_3] at A_3 EA_3 st_3
  replace E_a := E_a.ext Ex_3
  replace F_flags_a := F_flags_a.ext Ex_3
  replace F_tsn_a := F_tsn_a.ext Ex_3
  replace F_stream_a := F_stream_a.ext Ex_3
  replace F_streamSequence_a := F_streamSequence_a.ext Ex_3
  replace F_payloadProtocol_a := F_payloadProtocol_a.ext Ex_3
  replace F_payload_a := F_payload_a.ext Ex_3
  replace E_b := E_b.ext Ex_3
  replace V_b := V_b.ext Ex_3
  replace lt_a := Nat.lt_of_lt_of_le lt_a Ex_3.1
  replace lt_b := Nat.lt_of_lt_of_le lt_b Ex_3.1
  replace Zs := Nat.le_trans Zs Ex_3.1
  replace Kp := Kp.ext Ex_3
  have V_b_3 : Arv Z h_3 b_3 kk .byte (0 : Int32) [] (.int (0 : Int32)) := A_3
  have lt_b_3 := V_b_3.lt
  have E_b_3 := EA_3
  refine Win.go st_3 ?_
  clear st_3 Ex_3 A_3 EA_3 g_3 X_2 e_2
  show Win p.tables e below _ (T_3.setTop (mkF m 9 #[.val (.ref a), .val (.int p1), .val (.int p2), .val (.int p3), .val (.int p4), .val (.int p5), .val (.ref b)] [(.ref b_3)]))
  obtain ⟨T_4, X_4, e_4, st_4⟩ := castY X_3 hx hZ hown (hw _ (List.mem_of_getElem? (i := 22) rfl)) e_3 (Ins.self E_b_3) (g := (mkF m 9 #[.val (.ref a), .val (.int p1), .val (.int p2), .val (.int p3), .val (.int p4), .val (.int p5), .val (.ref b)] [(.ref b_3)])) rfl rfl (hb hby d1_9)
  refine Win.go st_4 ?_
  show Win p.tables e below _ (T_4.setTop (mkF m 12 #[.val (.ref a), .val (.int p1), .val (.int p2), .val (.int p3), .val (.int p4), .val (.int p5), .val (.ref b)] [(.ref b_3)]))
  refine s_astore (pc' := 14) (l' := #[.val (.ref a), .val (.int p1), .val (.int p2), .val (.int p3), .val (.int p4), .val (.int p5), .val (.ref b_3)]) X_4.here hx (hb hby d1_12) rfl rfl rfl ?_
  refine s_aloadN (pc' := 15) X_4.here hx (hb hby d1_14) rfl rfl rfl ?_
  refine s_iloadN (pc' := 16) X_4.here hx (hb hby d1_15) rfl rfl ?_
  obtain ⟨T_5, h_5, X_5, e_5, W_5, st_5⟩ := putF X_4 hx hZ hown (host := "") (Or.inl (hw _ (List.mem_of_getElem? (i := 24) rfl))) Via.refl e_4 F_flags_a E_a (Or.inr ⟨(hw _ (List.mem_of_getElem? (i := 25) rfl)), rfl, hnm⟩) (hw _ (List.mem_of_getElem? (i := 2) rfl)) (ty := .int) (by decide) rfl rfl (g := (mkF m 16 #[.val (.ref a), .val (.int p1), .val (.int p2), .val (.int p3), .val (.int p4), .val (.int p5), .val (.ref b_3)] [(.int p1), (.ref a)])) rfl rfl (hb hby d1_16)
  replace E_a := E_a.wr W_5
  replace F_tsn_a := F_tsn_a.other W_5 (Or.inr (slot_ne (Or.inr (hw _ (List.mem_of_getElem? (i := 27) rfl))) (Or.inr (hw _ (List.mem_of_getElem? (i := 25) rfl))) (by decide) (t := .int) (t' := .int) (by decide) (by decide)))
  replace F_stream_a := F_stream_a.other W_5 (Or.inr (slot_ne (Or.inr (hw _ (List.mem_of_getElem? (i := 29) rfl))) (Or.inr (hw _ (List.mem_of_getElem? (i := 25) rfl))) (by decide) (t := .int) (t' := .int) (by decide) (by decide)))
  replace F_streamSequence_a := F_streamSequence_a.other W_5 (Or.inr (slot_ne (Or.inr (hw _ (List.mem_of_getElem? (i := 31) rfl))) (Or.inr (hw _ (List.mem_of_getElem? (i := 25) rfl))) (by decide) (t := .int) (t' := .int) (by decide) (by decide)))
  replace F_payloadProtocol_a := F_payloadProtocol_a.other W_5 (Or.inr (slot_ne (Or.inr (hw _ (List.mem_of_getElem? (i := 33) rfl))) (Or.inr (hw _ (List.mem_of_getElem? (i := 25) rfl))) (by decide) (t := .int) (t' := .int) (by decide) (by decide)))
  replace F_payload_a := F_payload_a.other W_5 (Or.inr (slot_ne (Or.inr (hw _ (List.mem_of_getElem? (i := 35) rfl))) (Or.inr (hw _ (List.mem_of_getElem? (i := 25) rfl))) (by decide) (t := (.array .byte)) (t' := .int) (by decide) (by decide)))
  replace E_b := E_b.wr W_5
  replace V_b := V_b.other W_5 ne_b_a
  replace V_b_3 := V_b_3.other W_5 (Ne.symm ne_a_b_3)
  replace E_b_3 := E_b_3.wr W_5
  replace lt_a := Nat.lt_of_lt_of_le lt_a (Keep.of_wr W_5).1
  replace lt_b := Nat.lt_of_lt_of_le lt_b (Keep.of_wr W_5).1
  replace lt_b_3 := Nat.lt_of_lt_of_le lt_b_3 (Keep.of_wr W_5).1
  replace Zs := Nat.le_trans Zs (Keep.of_wr W_5).1
  replace Kp := Kp.wr W_5 (Or.inl (by simp))
  replace F_flags_a := F_flags_a.same W_5
  replace Nf := Fr.snoc X_5 Nf g_a
  refine Win.go st_5 ?_
  clear st_5 W_5 X_4 e_4
  show Win p.tables e below _ (T_5.setTop (mkF m 19 #[.val (.ref a), .val (.int p1), .val (.int p2), .val (.int p3), .val (.int p4), .val (.int p5), .val (.ref b_3)] []))
  refine s_aloadN (pc' := 20) X_5.here hx (hb hby d1_19) rfl rfl rfl ?_
  refine s_iloadN (pc' := 21) X_5.here hx (hb hby d1_20) rfl rfl ?_
  obtain ⟨T_6, h_6, X_6, e_6, W_6, st_6⟩ := putF X_5 hx hZ hown (host := "") (Or.inl (hw _ (List.mem_of_getElem? (i := 26) rfl))) Via.refl e_5 F_tsn_a E_a (Or.inr ⟨(hw _ (List.mem_of_getElem? (i := 27) rfl)), rfl, hnm⟩) (hw _ (List.mem_of_getElem? (i := 2) rfl)) (ty := .int) (by decide) rfl rfl (g := (mkF m 21 #[.val (.ref a), .val (.int p1), .val (.int p2), .val (.int p3), .val (.int p4), .val (.int p5), .val (.ref b_3)] [(.int p2), (.ref a)])) rfl rfl (hb hby d1_21)
  replace E_a := E_a.wr W_6
  replace F_flags_a := F_flags_a.other W_6 (Or.inr (slot_ne (Or.inr (hw _ (List.mem_of_getElem? (i := 25) rfl))) (Or.inr (hw _ (List.mem_of_getElem? (i := 27) rfl))) (by decide) (t := .int) (t' := .int) (by decide) (by decide)))
  replace F_stream_a := F_stream_a.other W_6 (Or.inr (slot_ne (Or.inr (hw _ (List.mem_of_getElem? (i := 29) rfl))) (Or.inr (hw _ (List.mem_of_getElem? (i := 27) rfl))) (by decide) (t := .int) (t' := .int) (by decide) (by decide)))
  replace F_streamSequence_a := F_streamSequence_a.other W_6 (Or.inr (slot_ne (Or.inr (hw _ (List.mem_of_getElem? (i := 31) rfl))) (Or.inr (hw _ (List.mem_of_getElem? (i := 27) rfl))) (by decide) (t := .int) (t' := .int) (by decide) (by decide)))
  replace F_payloadProtocol_a := F_payloadProtocol_a.other W_6 (Or.inr (slot_ne (Or.inr (hw _ (List.mem_of_getElem? (i := 33) rfl))) (Or.inr (hw _ (List.mem_of_getElem? (i := 27) rfl))) (by decide) (t := .int) (t' := .int) (by decide) (by decide)))
  replace F_payload_a := F_payload_a.other W_6 (Or.inr (slot_ne (Or.inr (hw _ (List.mem_of_getElem? (i := 35) rfl))) (Or.inr (hw _ (List.mem_of_getElem? (i := 27) rfl))) (by decide) (t := (.array .byte)) (t' := .int) (by decide) (by decide)))
  replace E_b := E_b.wr W_6
  replace V_b := V_b.other W_6 ne_b_a
  replace V_b_3 := V_b_3.other W_6 (Ne.symm ne_a_b_3)
  replace E_b_3 := E_b_3.wr W_6
  replace lt_a := Nat.lt_of_lt_of_le lt_a (Keep.of_wr W_6).1
  replace lt_b := Nat.lt_of_lt_of_le lt_b (Keep.of_wr W_6).1
  replace lt_b_3 := Nat.lt_of_lt_of_le lt_b_3 (Keep.of_wr W_6).1
  replace Zs := Nat.le_trans Zs (Keep.of_wr W_6).1
  replace Kp := Kp.wr W_6 (Or.inl (by simp))
  replace F_tsn_a := F_tsn_a.same W_6
  replace Nf := Fr.snoc X_6 Nf g_a
  refine Win.go st_6 ?_
  clear st_6 W_6 X_5 e_5
  show Win p.tables e below _ (T_6.setTop (mkF m 24 #[.val (.ref a), .val (.int p1), .val (.int p2), .val (.int p3), .val (.int p4), .val (.int p5), .val (.ref b_3)] []))
  refine s_aloadN (pc' := 25) X_6.here hx (hb hby d1_24) rfl rfl rfl ?_
  refine s_iloadN (pc' := 26) X_6.here hx (hb hby d1_25) rfl rfl ?_
  obtain ⟨T_7, h_7, X_7, e_7, W_7, st_7⟩ := putF X_6 hx hZ hown (host := "") (Or.inl (hw _ (List.mem_of_getElem? (i := 28) rfl))) Via.refl e_6 F_stream_a E_a (Or.inr ⟨(hw _ (List.mem_of_getElem? (i := 29) rfl)), rfl, hnm⟩) (hw _ (List.mem_of_getElem? (i := 2) rfl)) (ty := .int) (by decide) rfl rfl (g := (mkF m 26 #[.val (.ref a), .val (.int p1), .val (.int p2), .val (.int p3), .val (.int p4), .val (.int p5), .val (.ref b_3)] [(.int p3), (.ref a)])) rfl rfl (hb hby d1_26)
  replace E_a := E_a.wr W_7
  replace F_flags_a := F_flags_a.other W_7 (Or.inr (slot_ne (Or.inr (hw _ (List.mem_of_getElem? (i := 25) rfl))) (Or.inr (hw _ (List.mem_of_getElem? (i := 29) rfl))) (by decide) (t := .int) (t' := .int) (by decide) (by decide)))
  replace F_tsn_a := F_tsn_a.other W_7 (Or.inr (slot_ne (Or.inr (hw _ (List.mem_of_getElem? (i := 27) rfl))) (Or.inr (hw _ (List.mem_of_getElem? (i := 29) rfl))) (by decide) (t := .int) (t' := .int) (by decide) (by decide)))
  replace F_streamSequence_a := F_streamSequence_a.other W_7 (Or.inr (slot_ne (Or.inr (hw _ (List.mem_of_getElem? (i := 31) rfl))) (Or.inr (hw _ (List.mem_of_getElem? (i := 29) rfl))) (by decide) (t := .int) (t' := .int) (by decide) (by decide)))
  replace F_payloadProtocol_a := F_payloadProtocol_a.other W_7 (Or.inr (slot_ne (Or.inr (hw _ (List.mem_of_getElem? (i := 33) rfl))) (Or.inr (hw _ (List.mem_of_getElem? (i := 29) rfl))) (by decide) (t := .int) (t' := .int) (by decide) (by decide)))
  replace F_payload_a := F_payload_a.other W_7 (Or.inr (slot_ne (Or.inr (hw _ (List.mem_of_getElem? (i := 35) rfl))) (Or.inr (hw _ (List.mem_of_getElem? (i := 29) rfl))) (by decide) (t := (.array .byte)) (t' := .int) (by decide) (by decide)))
  replace E_b := E_b.wr W_7
  replace V_b := V_b.other W_7 ne_b_a
  replace V_b_3 := V_b_3.other W_7 (Ne.symm ne_a_b_3)
  replace E_b_3 := E_b_3.wr W_7
  replace lt_a := Nat.lt_of_lt_of_le lt_a (Keep.of_wr W_7).1
  replace lt_b := Nat.lt_of_lt_of_le lt_b (Keep.of_wr W_7).1
  replace lt_b_3 := Nat.lt_of_lt_of_le lt_b_3 (Keep.of_wr W_7).1
  replace Zs := Nat.le_trans Zs (Keep.of_wr W_7).1
  replace Kp := Kp.wr W_7 (Or.inl (by simp))
  replace F_stream_a := F_stream_a.same W_7
  replace Nf := Fr.snoc X_7 Nf g_a
  refine Win.go st_7 ?_
  clear st_7 W_7 X_6 e_6
  show Win p.tables e below _ (T_7.setTop (mkF m 29 #[.val (.ref a), .val (.int p1), .val (.int p2), .val (.int p3), .val (.int p4), .val (.int p5), .val (.ref b_3)] []))
  refine s_aloadN (pc' := 30) X_7.here hx (hb hby d1_29) rfl rfl rfl ?_
  refine s_iload (pc' := 32) X_7.here hx (hb hby d1_30) rfl rfl ?_
  obtain ⟨T_8, h_8, X_8, e_8, W_8, st_8⟩ := putF X_7 hx hZ hown (host := "") (Or.inl (hw _ (List.mem_of_getElem? (i := 30) rfl))) Via.refl e_7 F_streamSequence_a E_a (Or.inr ⟨(hw _ (List.mem_of_getElem? (i := 31) rfl)), rfl, hnm⟩) (hw _ (List.mem_of_getElem? (i := 2) rfl)) (ty := .int) (by decide) rfl rfl (g := (mkF m 32 #[.val (.ref a), .val (.int p1), .val (.int p2), .val (.int p3), .val (.int p4), .val (.int p5), .val (.ref b_3)] [(.int p4), (.ref a)])) rfl rfl (hb hby d1_32)
  replace E_a := E_a.wr W_8
  replace F_flags_a := F_flags_a.other W_8 (Or.inr (slot_ne (Or.inr (hw _ (List.mem_of_getElem? (i := 25) rfl))) (Or.inr (hw _ (List.mem_of_getElem? (i := 31) rfl))) (by decide) (t := .int) (t' := .int) (by decide) (by decide)))
  replace F_tsn_a := F_tsn_a.other W_8 (Or.inr (slot_ne (Or.inr (hw _ (List.mem_of_getElem? (i := 27) rfl))) (Or.inr (hw _ (List.mem_of_getElem? (i := 31) rfl))) (by decide) (t := .int) (t' := .int) (by decide) (by decide)))
  replace F_stream_a := F_stream_a.other W_8 (Or.inr (slot_ne (Or.inr (hw _ (List.mem_of_getElem? (i := 29) rfl))) (Or.inr (hw _ (List.mem_of_getElem? (i := 31) rfl))) (by decide) (t := .int) (t' := .int) (by decide) (by decide)))
  replace F_payloadProtocol_a := F_payloadProtocol_a.other W_8 (Or.inr (slot_ne (Or.inr (hw _ (List.mem_of_getElem? (i := 33) rfl))) (Or.inr (hw _ (List.mem_of_getElem? (i := 31) rfl))) (by decide) (t := .int) (t' := .int) (by decide) (by decide)))
  replace F_payload_a := F_payload_a.other W_8 (Or.inr (slot_ne (Or.inr (hw _ (List.mem_of_getElem? (i := 35) rfl))) (Or.inr (hw _ (List.mem_of_getElem? (i := 31) rfl))) (by decide) (t := (.array .byte)) (t' := .int) (by decide) (by decide)))
  replace E_b := E_b.wr W_8
  replace V_b := V_b.other W_8 ne_b_a
  replace V_b_3 := V_b_3.other W_8 (Ne.symm ne_a_b_3)
  replace E_b_3 := E_b_3.wr W_8
  replace lt_a := Nat.lt_of_lt_of_le lt_a (Keep.of_wr W_8).1
  replace lt_b := Nat.lt_of_lt_of_le lt_b (Keep.of_wr W_8).1
  replace lt_b_3 := Nat.lt_of_lt_of_le lt_b_3 (Keep.of_wr W_8).1
  replace Zs := Nat.le_trans Zs (Keep.of_wr W_8).1
  replace Kp := Kp.wr W_8 (Or.inl (by simp))
  replace F_streamSequence_a := F_streamSequence_a.same W_8
  replace Nf := Fr.snoc X_8 Nf g_a
  refine Win.go st_8 ?_
  clear st_8 W_8 X_7 e_7
  show Win p.tables e below _ (T_8.setTop (mkF m 35 #[.val (.ref a), .val (.int p1), .val (.int p2), .val (.int p3), .val (.int p4), .val (.int p5), .val (.ref b_3)] []))
  refine s_aloadN (pc' := 36) X_8.here hx (hb hby d1_35) rfl rfl rfl ?_
  refine s_iload (pc' := 38) X_8.here hx (hb hby d1_36) rfl rfl ?_
  obtain ⟨T_9, h_9, X_9, e_9, W_9, st_9⟩ := putF X_8 hx hZ hown (host := "") (Or.inl (hw _ (List.mem_of_getElem? (i := 32) rfl))) Via.refl e_8 F_payloadProtocol_a E_a (Or.inr ⟨(hw _ (List.mem_of_getElem? (i := 33) rfl)), rfl, hnm⟩) (hw _ (List.mem_of_getElem? (i := 2) rfl)) (ty := .int) (by decide) rfl rfl (g := (mkF m 38 #[.val (.ref a), .val (.int p1), .val (.int p2), .val (.int p3), .val (.int p4), .val (.int p5), .val (.ref b_3)] [(.int p5), (.ref a)])) rfl rfl (hb hby d1_38)
  replace E_a := E_a.wr W_9
  replace F_flags_a := F_flags_a.other W_9 (Or.inr (slot_ne (Or.inr (hw _ (List.mem_of_getElem? (i := 25) rfl))) (Or.inr (hw _ (List.mem_of_getElem? (i := 33) rfl))) (by decide) (t := .int) (t' := .int) (by decide) (by decide)))
  replace F_tsn_a := F_tsn_a.other W_9 (Or.inr (slot_ne (Or.inr (hw _ (List.mem_of_getElem? (i := 27) rfl))) (Or.inr (hw _ (List.mem_of_getElem? (i := 33) rfl))) (by decide) (t := .int) (t' := .int) (by decide) (by decide)))
  replace F_stream_a := F_stream_a.other W_9 (Or.inr (slot_ne (Or.inr (hw _ (List.mem_of_getElem? (i := 29) rfl))) (Or.inr (hw _ (List.mem_of_getElem? (i := 33) rfl))) (by decide) (t := .int) (t' := .int) (by decide) (by decide)))
  replace F_streamSequence_a := F_streamSequence_a.other W_9 (Or.inr (slot_ne (Or.inr (hw _ (List.mem_of_getElem? (i := 31) rfl))) (Or.inr (hw _ (List.mem_of_getElem? (i := 33) rfl))) (by decide) (t := .int) (t' := .int) (by decide) (by decide)))
  replace F_payload_a := F_payload_a.other W_9 (Or.inr (slot_ne (Or.inr (hw _ (List.mem_of_getElem? (i := 35) rfl))) (Or.inr (hw _ (List.mem_of_getElem? (i := 33) rfl))) (by decide) (t := (.array .byte)) (t' := .int) (by decide) (by decide)))
  replace E_b := E_b.wr W_9
  replace V_b := V_b.other W_9 ne_b_a
  replace V_b_3 := V_b_3.other W_9 (Ne.symm ne_a_b_3)
  replace E_b_3 := E_b_3.wr W_9
  replace lt_a := Nat.lt_of_lt_of_le lt_a (Keep.of_wr W_9).1
  replace lt_b := Nat.lt_of_lt_of_le lt_b (Keep.of_wr W_9).1
  replace lt_b_3 := Nat.lt_of_lt_of_le lt_b_3 (Keep.of_wr W_9).1
  replace Zs := Nat.le_trans Zs (Keep.of_wr W_9).1
  replace Kp := Kp.wr W_9 (Or.inl (by simp))
  replace F_payloadProtocol_a := F_payloadProtocol_a.same W_9
  replace Nf := Fr.snoc X_9 Nf g_a
  refine Win.go st_9 ?_
  clear st_9 W_9 X_8 e_8
  show Win p.tables e below _ (T_9.setTop (mkF m 41 #[.val (.ref a), .val (.int p1), .val (.int p2), .val (.int p3), .val (.int p4), .val (.int p5), .val (.ref b_3)] []))
  refine s_aloadN (pc' := 42) X_9.here hx (hb hby d1_41) rfl rfl rfl ?_
  refine s_aload (pc' := 44) X_9.here hx (hb hby d1_42) rfl rfl rfl ?_
  obtain ⟨T_10, h_10, X_10, e_10, W_10, st_10⟩ := putF X_9 hx hZ hown (host := "") (Or.inl (hw _ (List.mem_of_getElem? (i := 34) rfl))) Via.refl e_9 F_payload_a E_a (Or.inr ⟨(hw _ (List.mem_of_getElem? (i := 35) rfl)), rfl, hnm⟩) (hw _ (List.mem_of_getElem? (i := 2) rfl)) (ty := (.array .byte)) (by decide) rfl rfl (g := (mkF m 44 #[.val (.ref a), .val (.int p1), .val (.int p2), .val (.int p3), .val (.int p4), .val (.int p5), .val (.ref b_3)] [(.ref b_3), (.ref a)])) rfl rfl (hb hby d1_44)
  replace E_a := E_a.wr W_10
  replace F_flags_a := F_flags_a.other W_10 (Or.inr (slot_ne (Or.inr (hw _ (List.mem_of_getElem? (i := 25) rfl))) (Or.inr (hw _ (List.mem_of_getElem? (i := 35) rfl))) (by decide) (t := .int) (t' := (.array .byte)) (by decide) (by decide)))
  replace F_tsn_a := F_tsn_a.other W_10 (Or.inr (slot_ne (Or.inr (hw _ (List.mem_of_getElem? (i := 27) rfl))) (Or.inr (hw _ (List.mem_of_getElem? (i := 35) rfl))) (by decide) (t := .int) (t' := (.array .byte)) (by decide) (by decide)))
  replace F_stream_a := F_stream_a.other W_10 (Or.inr (slot_ne (Or.inr (hw _ (List.mem_of_getElem? (i := 29) rfl))) (Or.inr (hw _ (List.mem_of_getElem? (i := 35) rfl))) (by decide) (t := .int) (t' := (.array .byte)) (by decide) (by decide)))
  replace F_streamSequence_a := F_streamSequence_a.other W_10 (Or.inr (slot_ne (Or.inr (hw _ (List.mem_of_getElem? (i := 31) rfl))) (Or.inr (hw _ (List.mem_of_getElem? (i := 35) rfl))) (by decide) (t := .int) (t' := (.array .byte)) (by decide) (by decide)))
  replace F_payloadProtocol_a := F_payloadProtocol_a.other W_10 (Or.inr (slot_ne (Or.inr (hw _ (List.mem_of_getElem? (i := 33) rfl))) (Or.inr (hw _ (List.mem_of_getElem? (i := 35) rfl))) (by decide) (t := .int) (t' := (.array .byte)) (by decide) (by decide)))
  replace E_b := E_b.wr W_10
  replace V_b := V_b.other W_10 ne_b_a
  replace V_b_3 := V_b_3.other W_10 (Ne.symm ne_a_b_3)
  replace E_b_3 := E_b_3.wr W_10
  replace lt_a := Nat.lt_of_lt_of_le lt_a (Keep.of_wr W_10).1
  replace lt_b := Nat.lt_of_lt_of_le lt_b (Keep.of_wr W_10).1
  replace lt_b_3 := Nat.lt_of_lt_of_le lt_b_3 (Keep.of_wr W_10).1
  replace Zs := Nat.le_trans Zs (Keep.of_wr W_10).1
  replace Kp := Kp.wr W_10 (Or.inl (by simp))
  replace F_payload_a := F_payload_a.same W_10
  replace Nf := Fr.snoc X_10 Nf g_a
  refine Win.go st_10 ?_
  clear st_10 W_10 X_9 e_9
  show Win p.tables e below _ (T_10.setTop (mkF m 47 #[.val (.ref a), .val (.int p1), .val (.int p2), .val (.int p3), .val (.int p4), .val (.int p5), .val (.ref b_3)] []))
  refine winV X_10 hx hlk e_10 Bd.returns (hb hby d1_47) (by decide) (by decide) ?_
  exact ⟨Nf, Kp, F_flags_a, rfl⟩
theorem ef_1_1 (m : MethodId) (a : Addr) (p1 : Int32) (p2 : Int32) (p3 : Int32) (p4 : Int32) (p5 : Int32) (b : Addr) : entryFrame m #[(.ref a), (.int p1), (.int p2), (.int p3), (.int p4), (.int p5), (.ref b)] 7 = mkF m 0 #[.val (.ref a), .val (.int p1), .val (.int p2), .val (.int p3), .val (.int p4), .val (.int p5), .val (.ref b)] [] := by first | (simp [entryFrame, mkF, argsToLocals, Value.category]; done) | rfl
def Q1_1 (Z : State) (a : Addr) (p1 : Int32) (p2 : Int32) (p3 : Int32) (p4 : Int32) (p5 : Int32) (b : Addr) (kk : ClassId) (h0 : Heap) (n0 : Nat) (v : Option Value) (h : Heap) (L : List Loc) : Prop := Fr n0 L ∧ Keep h0 h [a] ∧ Fld Z h a "com/example/pointcode/pointcode/sctp/DataChunk" "flags" "I" (.int p1) ∧ v = none
set_option maxRecDepth 65536 in
set_option maxHeartbeats 40000000 in
theorem rm1_1 (l : Launch) (Z : State) (a0 : Array Value) (hw : ∀ d ∈ tables_1, d.before a0 Z = true) (ws : List Jvm.Cond) (a : Addr) (p1 : Int32) (p2 : Int32) (p3 : Int32) (p4 : Int32) (p5 : Int32) (b : Addr) (kk : ClassId) (h0 : Heap) (n0 : Nat) (Zs : n0 ≤ h0.size) (E_a : Exa Z h0 a "com/example/pointcode/pointcode/sctp/DataChunk") (F_flags_a : Fld Z h0 a "com/example/pointcode/pointcode/sctp/DataChunk" "flags" "I" (.int (0 : Int32))) (F_tsn_a : Fld Z h0 a "com/example/pointcode/pointcode/sctp/DataChunk" "tsn" "I" (.int (0 : Int32))) (F_stream_a : Fld Z h0 a "com/example/pointcode/pointcode/sctp/DataChunk" "stream" "I" (.int (0 : Int32))) (F_streamSequence_a : Fld Z h0 a "com/example/pointcode/pointcode/sctp/DataChunk" "streamSequence" "I" (.int (0 : Int32))) (F_payloadProtocol_a : Fld Z h0 a "com/example/pointcode/pointcode/sctp/DataChunk" "payloadProtocol" "I" (.int (0 : Int32))) (F_payload_a : Fld Z h0 a "com/example/pointcode/pointcode/sctp/DataChunk" "payload" "[B" .null) (g_a : n0 ≤ a) (E_b : Exa Z h0 b "[B") (V_b : Arv Z h0 b kk .byte (1 : Int32) [(.int (0 : Int32))] (.int (0 : Int32))) (ne_b_a : b ≠ a) :
    MetFree l (⟨"com/example/pointcode/pointcode/sctp/DataChunk", "<init>", "(IIIII[B)V"⟩ : MethodName) (head1 (Jvm.Cond.code (⟨"com/example/pointcode/pointcode/sctp/DataChunk", "<init>", "(IIIII[B)V"⟩ : MethodName) prog_93_method_1_code 7 none :: ws) ({ frames := 2, cells := 1, slots := 1, locals := 24 } : Room)) (fun as' U => as' = #[(.ref a), (.int p1), (.int p2), (.int p3), (.int p4), (.int p5), (.ref b)] ∧ Z.Warmed39 U.vm ∧ U.heap = h0) (fun _ _ _ _ _ => True) (fun _ U o U' => ∃ v L, o = .returned v ∧ Q1_1 Z a p1 p2 p3 p4 p5 b kk h0 n0 v U'.heap L ∧ FrameEnd U o U' L ({ frames := 2, cells := 1, slots := 1, locals := 24 } : Room).cells ({ frames := 2, cells := 1, slots := 1, locals := 24 } : Room).slots) := by
  refine MetFree.of_bodySF (plainFor_of_name pn_1) hisR ?_
  intro p e s m args below meth c s₁ Bd hml0 hP hK
  obtain ⟨rfl, hZ, hh⟩ := hP
  have hx := Bd.exec
  have hby := Bd.bytes
  have hml : c.maxLocals = 7 := hml0
  have hown : s.vm.findClass "com/example/pointcode/pointcode/sctp/DataChunk" = some m.cls := findClass_of_methodNamed Bd.named
  have hnm := (name_of_methodNamed Bd.named Bd.method).1
  have hlk : meth.locks = false := Bd.notSynchronized
  have X0 : Stand p l e ({ frames := 2, cells := 1, slots := 1, locals := 24 } : Room) s m #[(.ref a), (.int p1), (.int p2), (.int p3), (.int p4), (.int p5), (.ref b)] below meth c s₁ [] 0 0 := Stand.of_body Bd
  have e0 : s₁.heap = h0 := by rw [← hh, Bd.state]; rfl
  have Nf := Fr.nil n0
  refine (?_ : Win p.tables e below (PostQ s (Q1_1 Z a p1 p2 p3 p4 p5 b kk h0 n0) ({ frames := 2, cells := 1, slots := 1, locals := 24 } : Room).cells ({ frames := 2, cells := 1, slots := 1, locals := 24 } : Room).slots) (s₁.setTop (entryFrame m #[(.ref a), (.int p1), (.int p2), (.int p3), (.int p4), (.int p5), (.ref b)] 7)))
  rw [ef_1_1]
  have Kp : Keep h0 h0 [a] := Keep.refl h0 _
  have lt_a : a < h0.size := E_a.lt
  have lt_b : b < h0.size := E_b.lt
  show Win p.tables e below _ (s₁.setTop (mkF m 0 #[.val (.ref a), .val (.int p1), .val (.int p2), .val (.int p3), .val (.int p4), .val (.int p5), .val (.ref b)] []))
  refine s_aloadN (pc' := 1) X0.here hx (hb hby d1_0) rfl rfl rfl ?_
  obtain ⟨_, _, ⟨T_11, L_11, k_11, n_11⟩, -, X_11, ⟨Lc_11, hQ_11, l_11, y_11, z_11⟩, st_11⟩ := X0.specialBack hx (y := (⟨"java/lang/Record", "<init>", "()V"⟩ : MethodName)) rfl hown (mvT hZ (hw _ (List.mem_of_getElem? (i := 7) rfl))) (mvT hZ (hw _ (List.mem_of_getElem? (i := 8) rfl))) (mvT hZ (hw _ (List.mem_of_getElem? (i := 11) rfl))) (by decide) (backOf (W := 0) (rm2 l Z a0 hw [] a h0 n0 Zs ) hZ (hw _ (List.mem_of_getElem? (i := 11) rfl)) (hw _ (List.mem_of_getElem? (i := 10) rfl)) (by decide) (by decide)) (g := (mkF m 1 #[.val (.ref a), .val (.int p1), .val (.int p2), .val (.int p3), .val (.int p4), .val (.int p5), .val (.ref b)] [(.ref a)])) rfl (by rw [hml]; rfl) (Steps.refl _) (a := a) (argsL := []) (rest := []) (lenOf pd_0 rfl) rfl (by show 2 * 0 + _ ≤ _; exact Nat.le_of_eq rfl) (hb hby d1_1) (fun _ _ => ⟨rfl, e0, (by decide : 0 + 0 ≤ _), (by decide : 0 + 0 ≤ _)⟩)
  dsimp only [Pt.U, Pt.locs, Pt.cells, Pt.slots] at X_11 l_11 y_11 z_11 st_11 hQ_11
  subst l_11 y_11 z_11
  obtain ⟨Nq_11, e_11, rfl⟩ := hQ_11
  replace Nf := Fr.app Nf Nq_11
  refine Win.come st_11 ?_
  clear st_11 Nq_11 X0 e0
  show Win p.tables e below _ (T_11.setTop (mkF m 4 #[.val (.ref a), .val (.int p1), .val (.int p2), .val (.int p3), .val (.int p4), .val (.int p5), .val (.ref b)] []))
  refine s_aload (pc' := 6) X_11.here hx (hb hby d1_4) rfl rfl rfl ?_
  obtain ⟨T_12, h_12, X_12, e_12, Ex_12, A_12, EA_12, st_12⟩ := cloneH X_11 hx hZ hown (hw _ (List.mem_of_getElem? (i := 15) rfl)) (hw _ (List.mem_of_getElem? (i := 16) rfl)) (hw _ (List.mem_of_getElem? (i := 20) rfl)) (hw _ (List.mem_of_getElem? (i := 18) rfl)) (hw _ (List.mem_of_getElem? (i := 19) rfl)) (hw _ (List.mem_of_getElem? (i := 21) rfl)) e_11 (Arv.arh V_b) E_b (g := (mkF m 6 #[.val (.ref a), .val (.int p1), .val (.int p2), .val (.int p3), .val (.int p4), .val (.int p5), .val (.ref b)] [(.ref b)])) rfl (by rw [hml]; rfl) rfl (hb hby d1_6) (by decide) (W := 0) (by show 2 * 0 + _ ≤ _; exact Nat.le_of_eq rfl) (by decide) (cap := 1) (by decide) (by decide) (by decide)
  obtain ⟨b_12, g_12⟩ : ∃ z, z = h0.size := ⟨_, rfl⟩
  have ne_a_b_12 : a ≠ b_12 := Nat.ne_of_lt (Nat.lt_of_lt_of_le lt_a (Nat.le_of_eq g_12.symm))
  have ne_b_b_12 : b ≠ b_12 := Nat.ne_of_lt (Nat.lt_of_lt_of_le lt_b (Nat.le_of_eq g_12.symm))
  have g_b_12 : n0 ≤ b_12 := Nat.le_trans Zs (Nat.le_of_eq g_12.symm)
  have sz_b_12 : h0.size ≤ b_12 := Nat.le_trans Kp.1 (Nat.le_of_eq g_12.symm)
  rw [← g_12] at A_12 EA_12 st_12
  replace E_a := E_a.ext Ex_12
  replace F_flags_a := F_flags_a.ext Ex_12
  replace F_tsn_a := F_tsn_a.ext Ex_12
  replace F_stream_a := F_stream_a.ext Ex_12
  replace F_streamSequence_a := F_streamSequence_a.ext Ex_12
  replace F_payloadProtocol_a := F_payloadProtocol_a.ext Ex_12
  replace F_payload_a := F_payload_a.ext Ex_12
  replace E_b := E_b.ext Ex_12
  replace V_b := V_b.ext Ex_12
  replace lt_a := Nat.lt_of_lt_of_le lt_a Ex_12.1
  replace lt_b := Nat.lt_of_lt_of_le lt_b Ex_12.1
  replace Zs := Nat.le_trans Zs Ex_12.1
  replace Kp := Kp.ext Ex_12
  have V_b_12 : Arv Z h_12 b_12 kk .byte (1 : Int32) [(.int (0 : Int32))] (.int (0 : Int32)) := A_12
  have lt_b_12 := V_b_12.lt
  have E_b_12 := EA_12
  refine Win.go st_12 ?_
  clear st_12 Ex_12 A_12 EA_12 g_12 X_11 e_11
  show Win p.tables e below _ (T_12.setTop (mkF m 9 #[.val (.ref a), .val (.int p1), .val (.int p2), .val (.int p3), .val (.int p4), .val (.int p5), .val (.ref b)] [(.ref b_12)]))
  obtain ⟨T_13, X_13, e_13, st_13⟩ := castY X_12 hx hZ hown (hw _ (List.mem_of_getElem? (i := 22) rfl)) e_12 (Ins.self E_b_12) (g := (mkF m 9 #[.val (.ref a), .val (.int p1), .val (.int p2), .val (.int p3), .val (.int p4), .val (.int p5), .val (.ref b)] [(.ref b_12)])) rfl rfl (hb hby d1_9)
  refine Win.go st_13 ?_
  show Win p.tables e below _ (T_13.setTop (mkF m 12 #[.val (.ref a), .val (.int p1), .val (.int p2), .val (.int p3), .val (.int p4), .val (.int p5), .val (.ref b)] [(.ref b_12)]))
  refine s_astore (pc' := 14) (l' := #[.val (.ref a), .val (.int p1), .val (.int p2), .val (.int p3), .val (.int p4), .val (.int p5), .val (.ref b_12)]) X_13.here hx (hb hby d1_12) rfl rfl rfl ?_
  refine s_aloadN (pc' := 15) X_13.here hx (hb hby d1_14) rfl rfl rfl ?_
  refine s_iloadN (pc' := 16) X_13.here hx (hb hby d1_15) rfl rfl ?_
  obtain ⟨T_14, h_14, X_14, e_14, W_14, st_14⟩ := putF X_13 hx hZ hown (host := "") (Or.inl (hw _ (List.mem_of_getElem? (i := 24) rfl))) Via.refl e_13 F_flags_a E_a (Or.inr ⟨(hw _ (List.mem_of_getElem? (i := 25) rfl)), rfl, hnm⟩) (hw _ (List.mem_of_getElem? (i := 2) rfl)) (ty := .int) (by decide) rfl rfl (g := (mkF m 16 #[.val (.ref a), .val (.int p1), .val (.int p2), .val (.int p3), .val (.int p4), .val (.int p5), .val (.ref b_12)] [(.int p1), (.ref a)])) rfl rfl (hb hby d1_16)
  replace E_a := E_a.wr W_14
  replace F_tsn_a := F_tsn_a.other W_14 (Or.inr (slot_ne (Or.inr (hw _ (List.mem_of_getElem? (i := 27) rfl))) (Or.inr (hw _ (List.mem_of_getElem? (i := 25) rfl))) (by decide) (t := .int) (t' := .int) (by decide) (by decide)))
  replace F_stream_a := F_stream_a.other W_14 (Or.inr (slot_ne (Or.inr (hw _ (List.mem_of_getElem? (i := 29) rfl))) (Or.inr (hw _ (List.mem_of_getElem? (i := 25) rfl))) (by decide) (t := .int) (t' := .int) (by decide) (by decide)))
  replace F_streamSequence_a := F_streamSequence_a.other W_14 (Or.inr (slot_ne (Or.inr (hw _ (List.mem_of_getElem? (i := 31) rfl))) (Or.inr (hw _ (List.mem_of_getElem? (i := 25) rfl))) (by decide) (t := .int) (t' := .int) (by decide) (by decide)))
  replace F_payloadProtocol_a := F_payloadProtocol_a.other W_14 (Or.inr (slot_ne (Or.inr (hw _ (List.mem_of_getElem? (i := 33) rfl))) (Or.inr (hw _ (List.mem_of_getElem? (i := 25) rfl))) (by decide) (t := .int) (t' := .int) (by decide) (by decide)))
  replace F_payload_a := F_payload_a.other W_14 (Or.inr (slot_ne (Or.inr (hw _ (List.mem_of_getElem? (i := 35) rfl))) (Or.inr (hw _ (List.mem_of_getElem? (i := 25) rfl))) (by decide) (t := (.array .byte)) (t' := .int) (by decide) (by decide)))
  replace E_b := E_b.wr W_14
  replace V_b := V_b.other W_14 ne_b_a
  replace V_b_12 := V_b_12.other W_14 (Ne.symm ne_a_b_12)
  replace E_b_12 := E_b_12.wr W_14
  replace lt_a := Nat.lt_of_lt_of_le lt_a (Keep.of_wr W_14).1
  replace lt_b := Nat.lt_of_lt_of_le lt_b (Keep.of_wr W_14).1
  replace lt_b_12 := Nat.lt_of_lt_of_le lt_b_12 (Keep.of_wr W_14).1
  replace Zs := Nat.le_trans Zs (Keep.of_wr W_14).1
  replace Kp := Kp.wr W_14 (Or.inl (by simp))
  replace F_flags_a := F_flags_a.same W_14
  replace Nf := Fr.snoc X_14 Nf g_a
  refine Win.go st_14 ?_
  clear st_14 W_14 X_13 e_13
  show Win p.tables e below _ (T_14.setTop (mkF m 19 #[.val (.ref a), .val (.int p1), .val (.int p2), .val (.int p3), .val (.int p4), .val (.int p5), .val (.ref b_12)] []))
  refine s_aloadN (pc' := 20) X_14.here hx (hb hby d1_19) rfl rfl rfl ?_
  refine s_iloadN (pc' := 21) X_14.here hx (hb hby d1_20) rfl rfl ?_
  obtain ⟨T_15, h_15, X_15, e_15, W_15, st_15⟩ := putF X_14 hx hZ hown (host := "") (Or.inl (hw _ (List.mem_of_getElem? (i := 26) rfl))) Via.refl e_14 F_tsn_a E_a (Or.inr ⟨(hw _ (List.mem_of_getElem? (i := 27) rfl)), rfl, hnm⟩) (hw _ (List.mem_of_getElem? (i := 2) rfl)) (ty := .int) (by decide) rfl rfl (g := (mkF m 21 #[.val (.ref a), .val (.int p1), .val (.int p2), .val (.int p3), .val (.int p4), .val (.int p5), .val (.ref b_12)] [(.int p2), (.ref a)])) rfl rfl (hb hby d1_21)
  replace E_a := E_a.wr W_15
  replace F_flags_a := F_flags_a.other W_15 (Or.inr (slot_ne (Or.inr (hw _ (List.mem_of_getElem? (i := 25) rfl))) (Or.inr (hw _ (List.mem_of_getElem? (i := 27) rfl))) (by decide) (t := .int) (t' := .int) (by decide) (by decide)))
  replace F_stream_a := F_stream_a.other W_15 (Or.inr (slot_ne (Or.inr (hw _ (List.mem_of_getElem? (i := 29) rfl))) (Or.inr (hw _ (List.mem_of_getElem? (i := 27) rfl))) (by decide) (t := .int) (t' := .int) (by decide) (by decide)))
  replace F_streamSequence_a := F_streamSequence_a.other W_15 (Or.inr (slot_ne (Or.inr (hw _ (List.mem_of_getElem? (i := 31) rfl))) (Or.inr (hw _ (List.mem_of_getElem? (i := 27) rfl))) (by decide) (t := .int) (t' := .int) (by decide) (by decide)))
  replace F_payloadProtocol_a := F_payloadProtocol_a.other W_15 (Or.inr (slot_ne (Or.inr (hw _ (List.mem_of_getElem? (i := 33) rfl))) (Or.inr (hw _ (List.mem_of_getElem? (i := 27) rfl))) (by decide) (t := .int) (t' := .int) (by decide) (by decide)))
  replace F_payload_a := F_payload_a.other W_15 (Or.inr (slot_ne (Or.inr (hw _ (List.mem_of_getElem? (i := 35) rfl))) (Or.inr (hw _ (List.mem_of_getElem? (i := 27) rfl))) (by decide) (t := (.array .byte)) (t' := .int) (by decide) (by decide)))
  replace E_b := E_b.wr W_15
  replace V_b := V_b.other W_15 ne_b_a
  replace V_b_12 := V_b_12.other W_15 (Ne.symm ne_a_b_12)
  replace E_b_12 := E_b_12.wr W_15
  replace lt_a := Nat.lt_of_lt_of_le lt_a (Keep.of_wr W_15).1
  replace lt_b := Nat.lt_of_lt_of_le lt_b (Keep.of_wr W_15).1
  replace lt_b_12 := Nat.lt_of_lt_of_le lt_b_12 (Keep.of_wr W_15).1
  replace Zs := Nat.le_trans Zs (Keep.of_wr W_15).1
  replace Kp := Kp.wr W_15 (Or.inl (by simp))
  replace F_tsn_a := F_tsn_a.same W_15
  replace Nf := Fr.snoc X_15 Nf g_a
  refine Win.go st_15 ?_
  clear st_15 W_15 X_14 e_14
  show Win p.tables e below _ (T_15.setTop (mkF m 24 #[.val (.ref a), .val (.int p1), .val (.int p2), .val (.int p3), .val (.int p4), .val (.int p5), .val (.ref b_12)] []))
  refine s_aloadN (pc' := 25) X_15.here hx (hb hby d1_24) rfl rfl rfl ?_
  refine s_iloadN (pc' := 26) X_15.here hx (hb hby d1_25) rfl rfl ?_
  obtain ⟨T_16, h_16, X_16, e_16, W_16, st_16⟩ := putF X_15 hx hZ hown (host := "") (Or.inl (hw _ (List.mem_of_getElem? (i := 28) rfl))) Via.refl e_15 F_stream_a E_a (Or.inr ⟨(hw _ (List.mem_of_getElem? (i := 29) rfl)), rfl, hnm⟩) (hw _ (List.mem_of_getElem? (i := 2) rfl)) (ty := .int) (by decide) rfl rfl (g := (mkF m 26 #[.val (.ref a), .val (.int p1), .val (.int p2), .val (.int p3), .val (.int p4), .val (.int p5), .val (.ref b_12)] [(.int p3), (.ref a)])) rfl rfl (hb hby d1_26)
  replace E_a := E_a.wr W_16
  replace F_flags_a := F_flags_a.other W_16 (Or.inr (slot_ne (Or.inr (hw _ (List.mem_of_getElem? (i := 25) rfl))) (Or.inr (hw _ (List.mem_of_getElem? (i := 29) rfl))) (by decide) (t := .int) (t' := .int) (by decide) (by decide)))
  replace F_tsn_a := F_tsn_a.other W_16 (Or.inr (slot_ne (Or.inr (hw _ (List.mem_of_getElem? (i := 27) rfl))) (Or.inr (hw _ (List.mem_of_getElem? (i := 29) rfl))) (by decide) (t := .int) (t' := .int) (by decide) (by decide)))
  replace F_streamSequence_a := F_streamSequence_a.other W_16 (Or.inr (slot_ne (Or.inr (hw _ (List.mem_of_getElem? (i := 31) rfl))) (Or.inr (hw _ (List.mem_of_getElem? (i := 29) rfl))) (by decide) (t := .int) (t' := .int) (by decide) (by decide)))
  replace F_payloadProtocol_a := F_payloadProtocol_a.other W_16 (Or.inr (slot_ne (Or.inr (hw _ (List.mem_of_getElem? (i := 33) rfl))) (Or.inr (hw _ (List.mem_of_getElem? (i := 29) rfl))) (by decide) (t := .int) (t' := .int) (by decide) (by decide)))
  replace F_payload_a := F_payload_a.other W_16 (Or.inr (slot_ne (Or.inr (hw _ (List.mem_of_getElem? (i := 35) rfl))) (Or.inr (hw _ (List.mem_of_getElem? (i := 29) rfl))) (by decide) (t := (.array .byte)) (t' := .int) (by decide) (by decide)))
  replace E_b := E_b.wr W_16
  replace V_b := V_b.other W_16 ne_b_a
  replace V_b_12 := V_b_12.other W_16 (Ne.symm ne_a_b_12)
  replace E_b_12 := E_b_12.wr W_16
  replace lt_a := Nat.lt_of_lt_of_le lt_a (Keep.of_wr W_16).1
  replace lt_b := Nat.lt_of_lt_of_le lt_b (Keep.of_wr W_16).1
  replace lt_b_12 := Nat.lt_of_lt_of_le lt_b_12 (Keep.of_wr W_16).1
  replace Zs := Nat.le_trans Zs (Keep.of_wr W_16).1
  replace Kp := Kp.wr W_16 (Or.inl (by simp))
  replace F_stream_a := F_stream_a.same W_16
  replace Nf := Fr.snoc X_16 Nf g_a
  refine Win.go st_16 ?_
  clear st_16 W_16 X_15 e_15
  show Win p.tables e below _ (T_16.setTop (mkF m 29 #[.val (.ref a), .val (.int p1), .val (.int p2), .val (.int p3), .val (.int p4), .val (.int p5), .val (.ref b_12)] []))
  refine s_aloadN (pc' := 30) X_16.here hx (hb hby d1_29) rfl rfl rfl ?_
  refine s_iload (pc' := 32) X_16.here hx (hb hby d1_30) rfl rfl ?_
  obtain ⟨T_17, h_17, X_17, e_17, W_17, st_17⟩ := putF X_16 hx hZ hown (host := "") (Or.inl (hw _ (List.mem_of_getElem? (i := 30) rfl))) Via.refl e_16 F_streamSequence_a E_a (Or.inr ⟨(hw _ (List.mem_of_getElem? (i := 31) rfl)), rfl, hnm⟩) (hw _ (List.mem_of_getElem? (i := 2) rfl)) (ty := .int) (by decide) rfl rfl (g := (mkF m 32 #[.val (.ref a), .val (.int p1), .val (.int p2), .val (.int p3), .val (.int p4), .val (.int p5), .val (.ref b_12)] [(.int p4), (.ref a)])) rfl rfl (hb hby d1_32)
  replace E_a := E_a.wr W_17
  replace F_flags_a := F_flags_a.other W_17 (Or.inr (slot_ne (Or.inr (hw _ (List.mem_of_getElem? (i := 25) rfl))) (Or.inr (hw _ (List.mem_of_getElem? (i := 31) rfl))) (by decide) (t := .int) (t' := .int) (by decide) (by decide)))
  replace F_tsn_a := F_tsn_a.other W_17 (Or.inr (slot_ne (Or.inr (hw _ (List.mem_of_getElem? (i := 27) rfl))) (Or.inr (hw _ (List.mem_of_getElem? (i := 31) rfl))) (by decide) (t := .int) (t' := .int) (by decide) (by decide)))
  replace F_stream_a := F_stream_a.other W_17 (Or.inr (slot_ne (Or.inr (hw _ (List.mem_of_getElem? (i := 29) rfl))) (Or.inr (hw _ (List.mem_of_getElem? (i := 31) rfl))) (by decide) (t := .int) (t' := .int) (by decide) (by decide)))
  replace F_payloadProtocol_a := F_payloadProtocol_a.other W_17 (Or.inr (slot_ne (Or.inr (hw _ (List.mem_of_getElem? (i := 33) rfl))) (Or.inr (hw _ (List.mem_of_getElem? (i := 31) rfl))) (by decide) (t := .int) (t' := .int) (by decide) (by decide)))
  replace F_payload_a := F_payload_a.other W_17 (Or.inr (slot_ne (Or.inr (hw _ (List.mem_of_getElem? (i := 35) rfl))) (Or.inr (hw _ (List.mem_of_getElem? (i := 31) rfl))) (by decide) (t := (.array .byte)) (t' := .int) (by decide) (by decide)))
  replace E_b := E_b.wr W_17
  replace V_b := V_b.other W_17 ne_b_a
  replace V_b_12 := V_b_12.other W_17 (Ne.symm ne_a_b_12)
  replace E_b_12 := E_b_12.wr W_17
  replace lt_a := Nat.lt_of_lt_of_le lt_a (Keep.of_wr W_17).1
  replace lt_b := Nat.lt_of_lt_of_le lt_b (Keep.of_wr W_17).1
  replace lt_b_12 := Nat.lt_of_lt_of_le lt_b_12 (Keep.of_wr W_17).1
  replace Zs := Nat.le_trans Zs (Keep.of_wr W_17).1
  replace Kp := Kp.wr W_17 (Or.inl (by simp))
  replace F_streamSequence_a := F_streamSequence_a.same W_17
  replace Nf := Fr.snoc X_17 Nf g_a
  refine Win.go st_17 ?_
  clear st_17 W_17 X_16 e_16
  show Win p.tables e below _ (T_17.setTop (mkF m 35 #[.val (.ref a), .val (.int p1), .val (.int p2), .val (.int p3), .val (.int p4), .val (.int p5), .val (.ref b_12)] []))
  refine s_aloadN (pc' := 36) X_17.here hx (hb hby d1_35) rfl rfl rfl ?_
  refine s_iload (pc' := 38) X_17.here hx (hb hby d1_36) rfl rfl ?_
  obtain ⟨T_18, h_18, X_18, e_18, W_18, st_18⟩ := putF X_17 hx hZ hown (host := "") (Or.inl (hw _ (List.mem_of_getElem? (i := 32) rfl))) Via.refl e_17 F_payloadProtocol_a E_a (Or.inr ⟨(hw _ (List.mem_of_getElem? (i := 33) rfl)), rfl, hnm⟩) (hw _ (List.mem_of_getElem? (i := 2) rfl)) (ty := .int) (by decide) rfl rfl (g := (mkF m 38 #[.val (.ref a), .val (.int p1), .val (.int p2), .val (.int p3), .val (.int p4), .val (.int p5), .val (.ref b_12)] [(.int p5), (.ref a)])) rfl rfl (hb hby d1_38)
  replace E_a := E_a.wr W_18
  replace F_flags_a := F_flags_a.other W_18 (Or.inr (slot_ne (Or.inr (hw _ (List.mem_of_getElem? (i := 25) rfl))) (Or.inr (hw _ (List.mem_of_getElem? (i := 33) rfl))) (by decide) (t := .int) (t' := .int) (by decide) (by decide)))
  replace F_tsn_a := F_tsn_a.other W_18 (Or.inr (slot_ne (Or.inr (hw _ (List.mem_of_getElem? (i := 27) rfl))) (Or.inr (hw _ (List.mem_of_getElem? (i := 33) rfl))) (by decide) (t := .int) (t' := .int) (by decide) (by decide)))
  replace F_stream_a := F_stream_a.other W_18 (Or.inr (slot_ne (Or.inr (hw _ (List.mem_of_getElem? (i := 29) rfl))) (Or.inr (hw _ (List.mem_of_getElem? (i := 33) rfl))) (by decide) (t := .int) (t' := .int) (by decide) (by decide)))
  replace F_streamSequence_a := F_streamSequence_a.other W_18 (Or.inr (slot_ne (Or.inr (hw _ (List.mem_of_getElem? (i := 31) rfl))) (Or.inr (hw _ (List.mem_of_getElem? (i := 33) rfl))) (by decide) (t := .int) (t' := .int) (by decide) (by decide)))
  replace F_payload_a := F_payload_a.other W_18 (Or.inr (slot_ne (Or.inr (hw _ (List.mem_of_getElem? (i := 35) rfl))) (Or.inr (hw _ (List.mem_of_getElem? (i := 33) rfl))) (by decide) (t := (.array .byte)) (t' := .int) (by decide) (by decide)))
  replace E_b := E_b.wr W_18
  replace V_b := V_b.other W_18 ne_b_a
  replace V_b_12 := V_b_12.other W_18 (Ne.symm ne_a_b_12)
  replace E_b_12 := E_b_12.wr W_18
  replace lt_a := Nat.lt_of_lt_of_le lt_a (Keep.of_wr W_18).1
  replace lt_b := Nat.lt_of_lt_of_le lt_b (Keep.of_wr W_18).1
  replace lt_b_12 := Nat.lt_of_lt_of_le lt_b_12 (Keep.of_wr W_18).1
  replace Zs := Nat.le_trans Zs (Keep.of_wr W_18).1
  replace Kp := Kp.wr W_18 (Or.inl (by simp))
  replace F_payloadProtocol_a := F_payloadProtocol_a.same W_18
  replace Nf := Fr.snoc X_18 Nf g_a
  refine Win.go st_18 ?_
  clear st_18 W_18 X_17 e_17
  show Win p.tables e below _ (T_18.setTop (mkF m 41 #[.val (.ref a), .val (.int p1), .val (.int p2), .val (.int p3), .val (.int p4), .val (.int p5), .val (.ref b_12)] []))
  refine s_aloadN (pc' := 42) X_18.here hx (hb hby d1_41) rfl rfl rfl ?_
  refine s_aload (pc' := 44) X_18.here hx (hb hby d1_42) rfl rfl rfl ?_
  obtain ⟨T_19, h_19, X_19, e_19, W_19, st_19⟩ := putF X_18 hx hZ hown (host := "") (Or.inl (hw _ (List.mem_of_getElem? (i := 34) rfl))) Via.refl e_18 F_payload_a E_a (Or.inr ⟨(hw _ (List.mem_of_getElem? (i := 35) rfl)), rfl, hnm⟩) (hw _ (List.mem_of_getElem? (i := 2) rfl)) (ty := (.array .byte)) (by decide) rfl rfl (g := (mkF m 44 #[.val (.ref a), .val (.int p1), .val (.int p2), .val (.int p3), .val (.int p4), .val (.int p5), .val (.ref b_12)] [(.ref b_12), (.ref a)])) rfl rfl (hb hby d1_44)
  replace E_a := E_a.wr W_19
  replace F_flags_a := F_flags_a.other W_19 (Or.inr (slot_ne (Or.inr (hw _ (List.mem_of_getElem? (i := 25) rfl))) (Or.inr (hw _ (List.mem_of_getElem? (i := 35) rfl))) (by decide) (t := .int) (t' := (.array .byte)) (by decide) (by decide)))
  replace F_tsn_a := F_tsn_a.other W_19 (Or.inr (slot_ne (Or.inr (hw _ (List.mem_of_getElem? (i := 27) rfl))) (Or.inr (hw _ (List.mem_of_getElem? (i := 35) rfl))) (by decide) (t := .int) (t' := (.array .byte)) (by decide) (by decide)))
  replace F_stream_a := F_stream_a.other W_19 (Or.inr (slot_ne (Or.inr (hw _ (List.mem_of_getElem? (i := 29) rfl))) (Or.inr (hw _ (List.mem_of_getElem? (i := 35) rfl))) (by decide) (t := .int) (t' := (.array .byte)) (by decide) (by decide)))
  replace F_streamSequence_a := F_streamSequence_a.other W_19 (Or.inr (slot_ne (Or.inr (hw _ (List.mem_of_getElem? (i := 31) rfl))) (Or.inr (hw _ (List.mem_of_getElem? (i := 35) rfl))) (by decide) (t := .int) (t' := (.array .byte)) (by decide) (by decide)))
  replace F_payloadProtocol_a := F_payloadProtocol_a.other W_19 (Or.inr (slot_ne (Or.inr (hw _ (List.mem_of_getElem? (i := 33) rfl))) (Or.inr (hw _ (List.mem_of_getElem? (i := 35) rfl))) (by decide) (t := .int) (t' := (.array .byte)) (by decide) (by decide)))
  replace E_b := E_b.wr W_19
  replace V_b := V_b.other W_19 ne_b_a
  replace V_b_12 := V_b_12.other W_19 (Ne.symm ne_a_b_12)
  replace E_b_12 := E_b_12.wr W_19
  replace lt_a := Nat.lt_of_lt_of_le lt_a (Keep.of_wr W_19).1
  replace lt_b := Nat.lt_of_lt_of_le lt_b (Keep.of_wr W_19).1
  replace lt_b_12 := Nat.lt_of_lt_of_le lt_b_12 (Keep.of_wr W_19).1
  replace Zs := Nat.le_trans Zs (Keep.of_wr W_19).1
  replace Kp := Kp.wr W_19 (Or.inl (by simp))
  replace F_payload_a := F_payload_a.same W_19
  replace Nf := Fr.snoc X_19 Nf g_a
  refine Win.go st_19 ?_
  clear st_19 W_19 X_18 e_18
  show Win p.tables e below _ (T_19.setTop (mkF m 47 #[.val (.ref a), .val (.int p1), .val (.int p2), .val (.int p3), .val (.int p4), .val (.int p5), .val (.ref b_12)] []))
  refine winV X_19 hx hlk e_19 Bd.returns (hb hby d1_47) (by decide) (by decide) ?_
  exact ⟨Nf, Kp, F_flags_a, rfl⟩
theorem ef_1_2 (m : MethodId) (a : Addr) (p1 : Int32) (p2 : Int32) (p3 : Int32) (p4 : Int32) (p5 : Int32) (b : Addr) : entryFrame m #[(.ref a), (.int p1), (.int p2), (.int p3), (.int p4), (.int p5), (.ref b)] 7 = mkF m 0 #[.val (.ref a), .val (.int p1), .val (.int p2), .val (.int p3), .val (.int p4), .val (.int p5), .val (.ref b)] [] := by first | (simp [entryFrame, mkF, argsToLocals, Value.category]; done) | rfl
def Q1_2 (Z : State) (a : Addr) (p1 : Int32) (p2 : Int32) (p3 : Int32) (p4 : Int32) (p5 : Int32) (b : Addr) (kk : ClassId) (h0 : Heap) (n0 : Nat) (v : Option Value) (h : Heap) (L : List Loc) : Prop := Fr n0 L ∧ Keep h0 h [a] ∧ Fld Z h a "com/example/pointcode/pointcode/sctp/DataChunk" "flags" "I" (.int p1) ∧ v = none
set_option maxRecDepth 65536 in
set_option maxHeartbeats 40000000 in
theorem rm1_2 (l : Launch) (Z : State) (a0 : Array Value) (hw : ∀ d ∈ tables_1, d.before a0 Z = true) (ws : List Jvm.Cond) (a : Addr) (p1 : Int32) (p2 : Int32) (p3 : Int32) (p4 : Int32) (p5 : Int32) (b : Addr) (kk : ClassId) (h0 : Heap) (n0 : Nat) (Zs : n0 ≤ h0.size) (E_a : Exa Z h0 a "com/example/pointcode/pointcode/sctp/DataChunk") (F_flags_a : Fld Z h0 a "com/example/pointcode/pointcode/sctp/DataChunk" "flags" "I" (.int (0 : Int32))) (F_tsn_a : Fld Z h0 a "com/example/pointcode/pointcode/sctp/DataChunk" "tsn" "I" (.int (0 : Int32))) (F_stream_a : Fld Z h0 a "com/example/pointcode/pointcode/sctp/DataChunk" "stream" "I" (.int (0 : Int32))) (F_streamSequence_a : Fld Z h0 a "com/example/pointcode/pointcode/sctp/DataChunk" "streamSequence" "I" (.int (0 : Int32))) (F_payloadProtocol_a : Fld Z h0 a "com/example/pointcode/pointcode/sctp/DataChunk" "payloadProtocol" "I" (.int (0 : Int32))) (F_payload_a : Fld Z h0 a "com/example/pointcode/pointcode/sctp/DataChunk" "payload" "[B" .null) (g_a : n0 ≤ a) (E_b : Exa Z h0 b "[B") (V_b : Arv Z h0 b kk .byte (2 : Int32) [(.int (0 : Int32)), (.int (0 : Int32))] (.int (0 : Int32))) (ne_b_a : b ≠ a) :
    MetFree l (⟨"com/example/pointcode/pointcode/sctp/DataChunk", "<init>", "(IIIII[B)V"⟩ : MethodName) (head1 (Jvm.Cond.code (⟨"com/example/pointcode/pointcode/sctp/DataChunk", "<init>", "(IIIII[B)V"⟩ : MethodName) prog_93_method_1_code 7 none :: ws) ({ frames := 2, cells := 1, slots := 2, locals := 24 } : Room)) (fun as' U => as' = #[(.ref a), (.int p1), (.int p2), (.int p3), (.int p4), (.int p5), (.ref b)] ∧ Z.Warmed39 U.vm ∧ U.heap = h0) (fun _ _ _ _ _ => True) (fun _ U o U' => ∃ v L, o = .returned v ∧ Q1_2 Z a p1 p2 p3 p4 p5 b kk h0 n0 v U'.heap L ∧ FrameEnd U o U' L ({ frames := 2, cells := 1, slots := 2, locals := 24 } : Room).cells ({ frames := 2, cells := 1, slots := 2, locals := 24 } : Room).slots) := by
  refine MetFree.of_bodySF (plainFor_of_name pn_1) hisR ?_
  intro p e s m args below meth c s₁ Bd hml0 hP hK
  obtain ⟨rfl, hZ, hh⟩ := hP
  have hx := Bd.exec
  have hby := Bd.bytes
  have hml : c.maxLocals = 7 := hml0
  have hown : s.vm.findClass "com/example/pointcode/pointcode/sctp/DataChunk" = some m.cls := findClass_of_methodNamed Bd.named
  have hnm := (name_of_methodNamed Bd.named Bd.method).1
  have hlk : meth.locks = false := Bd.notSynchronized
  have X0 : Stand p l e ({ frames := 2, cells := 1, slots := 2, locals := 24 } : Room) s m #[(.ref a), (.int p1), (.int p2), (.int p3), (.int p4), (.int p5), (.ref b)] below meth c s₁ [] 0 0 := Stand.of_body Bd
  have e0 : s₁.heap = h0 := by rw [← hh, Bd.state]; rfl
  have Nf := Fr.nil n0
  refine (?_ : Win p.tables e below (PostQ s (Q1_2 Z a p1 p2 p3 p4 p5 b kk h0 n0) ({ frames := 2, cells := 1, slots := 2, locals := 24 } : Room).cells ({ frames := 2, cells := 1, slots := 2, locals := 24 } : Room).slots) (s₁.setTop (entryFrame m #[(.ref a), (.int p1), (.int p2), (.int p3), (.int p4), (.int p5), (.ref b)] 7)))
  rw [ef_1_2]
  have Kp : Keep h0 h0 [a] := Keep.refl h0 _
  have lt_a : a < h0.size := E_a.lt
  have lt_b : b < h0.size := E_b.lt
  show Win p.tables e below _ (s₁.setTop (mkF m 0 #[.val (.ref a), .val (.int p1), .val (.int p2), .val (.int p3), .val (.int p4), .val (.int p5), .val (.ref b)] []))
  refine s_aloadN (pc' := 1) X0.here hx (hb hby d1_0) rfl rfl rfl ?_
  obtain ⟨_, _, ⟨T_20, L_20, k_20, n_20⟩, -, X_20, ⟨Lc_20, hQ_20, l_20, y_20, z_20⟩, st_20⟩ := X0.specialBack hx (y := (⟨"java/lang/Record", "<init>", "()V"⟩ : MethodName)) rfl hown (mvT hZ (hw _ (List.mem_of_getElem? (i := 7) rfl))) (mvT hZ (hw _ (List.mem_of_getElem? (i := 8) rfl))) (mvT hZ (hw _ (List.mem_of_getElem? (i := 11) rfl))) (by decide) (backOf (W := 0) (rm2 l Z a0 hw [] a h0 n0 Zs ) hZ (hw _ (List.mem_of_getElem? (i := 11) rfl)) (hw _ (List.mem_of_getElem? (i := 10) rfl)) (by decide) (by decide)) (g := (mkF m 1 #[.val (.ref a), .val (.int p1), .val (.int p2), .val (.int p3), .val (.int p4), .val (.int p5), .val (.ref b)] [(.ref a)])) rfl (by rw [hml]; rfl) (Steps.refl _) (a := a) (argsL := []) (rest := []) (lenOf pd_0 rfl) rfl (by show 2 * 0 + _ ≤ _; exact Nat.le_of_eq rfl) (hb hby d1_1) (fun _ _ => ⟨rfl, e0, (by decide : 0 + 0 ≤ _), (by decide : 0 + 0 ≤ _)⟩)
  dsimp only [Pt.U, Pt.locs, Pt.cells, Pt.slots] at X_20 l_20 y_20 z_20 st_20 hQ_20
  subst l_20 y_20 z_20
  obtain ⟨Nq_20, e_20, rfl⟩ := hQ_20
  replace Nf := Fr.app Nf Nq_20
  refine Win.come st_20 ?_
  clear st_20 Nq_20 X0 e0
  show Win p.tables e below _ (T_20.setTop (mkF m 4 #[.val (.ref a), .val (.int p1), .val (.int p2), .val (.int p3), .val (.int p4), .val (.int p5), .val (.ref b)] []))
  refine s_aload (pc' := 6) X_20.here hx (hb hby d1_4) rfl rfl rfl ?_
  obtain ⟨T_21, h_21, X_21, e_21, Ex_21, A_21, EA_21, st_21⟩ := cloneH X_20 hx hZ hown (hw _ (List.mem_of_getElem? (i := 15) rfl)) (hw _ (List.mem_of_getElem? (i := 16) rfl)) (hw _ (List.mem_of_getElem? (i := 20) rfl)) (hw _ (List.mem_of_getElem? (i := 18) rfl)) (hw _ (List.mem_of_getElem? (i := 19) rfl)) (hw _ (List.mem_of_getElem? (i := 21) rfl)) e_20 (Arv.arh V_b) E_b (g := (mkF m 6 #[.val (.ref a), .val (.int p1), .val (.int p2), .val (.int p3), .val (.int p4), .val (.int p5), .val (.ref b)] [(.ref b)])) rfl (by rw [hml]; rfl) rfl (hb hby d1_6) (by decide) (W := 0) (by show 2 * 0 + _ ≤ _; exact Nat.le_of_eq rfl) (by decide) (cap := 2) (by decide) (by decide) (by decide)
  obtain ⟨b_21, g_21⟩ : ∃ z, z = h0.size := ⟨_, rfl⟩
  have ne_a_b_21 : a ≠ b_21 := Nat.ne_of_lt (Nat.lt_of_lt_of_le lt_a (Nat.le_of_eq g_21.symm))
  have ne_b_b_21 : b ≠ b_21 := Nat.ne_of_lt (Nat.lt_of_lt_of_le lt_b (Nat.le_of_eq g_21.symm))
  have g_b_21 : n0 ≤ b_21 := Nat.le_trans Zs (Nat.le_of_eq g_21.symm)
  have sz_b_21 : h0.size ≤ b_21 := Nat.le_trans Kp.1 (Nat.le_of_eq g_21.symm)
  rw [← g_21] at A_21 EA_21 st_21
  replace E_a := E_a.ext Ex_21
  replace F_flags_a := F_flags_a.ext Ex_21
  replace F_tsn_a := F_tsn_a.ext Ex_21
  replace F_stream_a := F_stream_a.ext Ex_21
  replace F_streamSequence_a := F_streamSequence_a.ext Ex_21
  replace F_payloadProtocol_a := F_payloadProtocol_a.ext Ex_21
  replace F_payload_a := F_payload_a.ext Ex_21
  replace E_b := E_b.ext Ex_21
  replace V_b := V_b.ext Ex_21
  replace lt_a := Nat.lt_of_lt_of_le lt_a Ex_21.1
  replace lt_b := Nat.lt_of_lt_of_le lt_b Ex_21.1
  replace Zs := Nat.le_trans Zs Ex_21.1
  replace Kp := Kp.ext Ex_21
  have V_b_21 : Arv Z h_21 b_21 kk .byte (2 : Int32) [(.int (0 : Int32)), (.int (0 : Int32))] (.int (0 : Int32)) := A_21
  have lt_b_21 := V_b_21.lt
  have E_b_21 := EA_21
  refine Win.go st_21 ?_
  clear st_21 Ex_21 A_21 EA_21 g_21 X_20 e_20
  show Win p.tables e below _ (T_21.setTop (mkF m 9 #[.val (.ref a), .val (.int p1), .val (.int p2), .val (.int p3), .val (.int p4), .val (.int p5), .val (.ref b)] [(.ref b_21)]))
  obtain ⟨T_22, X_22, e_22, st_22⟩ := castY X_21 hx hZ hown (hw _ (List.mem_of_getElem? (i := 22) rfl)) e_21 (Ins.self E_b_21) (g := (mkF m 9 #[.val (.ref a), .val (.int p1), .val (.int p2), .val (.int p3), .val (.int p4), .val (.int p5), .val (.ref b)] [(.ref b_21)])) rfl rfl (hb hby d1_9)
  refine Win.go st_22 ?_
  show Win p.tables e below _ (T_22.setTop (mkF m 12 #[.val (.ref a), .val (.int p1), .val (.int p2), .val (.int p3), .val (.int p4), .val (.int p5), .val (.ref b)] [(.ref b_21)]))
  refine s_astore (pc' := 14) (l' := #[.val (.ref a), .val (.int p1), .val (.int p2), .val (.int p3), .val (.int p4), .val (.int p5), .val (.ref b_21)]) X_22.here hx (hb hby d1_12) rfl rfl rfl ?_
  refine s_aloadN (pc' := 15) X_22.here hx (hb hby d1_14) rfl rfl rfl ?_
  refine s_iloadN (pc' := 16) X_22.here hx (hb hby d1_15) rfl rfl ?_
  obtain ⟨T_23, h_23, X_23, e_23, W_23, st_23⟩ := putF X_22 hx hZ hown (host := "") (Or.inl (hw _ (List.mem_of_getElem? (i := 24) rfl))) Via.refl e_22 F_flags_a E_a (Or.inr ⟨(hw _ (List.mem_of_getElem? (i := 25) rfl)), rfl, hnm⟩) (hw _ (List.mem_of_getElem? (i := 2) rfl)) (ty := .int) (by decide) rfl rfl (g := (mkF m 16 #[.val (.ref a), .val (.int p1), .val (.int p2), .val (.int p3), .val (.int p4), .val (.int p5), .val (.ref b_21)] [(.int p1), (.ref a)])) rfl rfl (hb hby d1_16)
  replace E_a := E_a.wr W_23
  replace F_tsn_a := F_tsn_a.other W_23 (Or.inr (slot_ne (Or.inr (hw _ (List.mem_of_getElem? (i := 27) rfl))) (Or.inr (hw _ (List.mem_of_getElem? (i := 25) rfl))) (by decide) (t := .int) (t' := .int) (by decide) (by decide)))
  replace F_stream_a := F_stream_a.other W_23 (Or.inr (slot_ne (Or.inr (hw _ (List.mem_of_getElem? (i := 29) rfl))) (Or.inr (hw _ (List.mem_of_getElem? (i := 25) rfl))) (by decide) (t := .int) (t' := .int) (by decide) (by decide)))
  replace F_streamSequence_a := F_streamSequence_a.other W_23 (Or.inr (slot_ne (Or.inr (hw _ (List.mem_of_getElem? (i := 31) rfl))) (Or.inr (hw _ (List.mem_of_getElem? (i := 25) rfl))) (by decide) (t := .int) (t' := .int) (by decide) (by decide)))
  replace F_payloadProtocol_a := F_payloadProtocol_a.other W_23 (Or.inr (slot_ne (Or.inr (hw _ (List.mem_of_getElem? (i := 33) rfl))) (Or.inr (hw _ (List.mem_of_getElem? (i := 25) rfl))) (by decide) (t := .int) (t' := .int) (by decide) (by decide)))
  replace F_payload_a := F_payload_a.other W_23 (Or.inr (slot_ne (Or.inr (hw _ (List.mem_of_getElem? (i := 35) rfl))) (Or.inr (hw _ (List.mem_of_getElem? (i := 25) rfl))) (by decide) (t := (.array .byte)) (t' := .int) (by decide) (by decide)))
  replace E_b := E_b.wr W_23
  replace V_b := V_b.other W_23 ne_b_a
  replace V_b_21 := V_b_21.other W_23 (Ne.symm ne_a_b_21)
  replace E_b_21 := E_b_21.wr W_23
  replace lt_a := Nat.lt_of_lt_of_le lt_a (Keep.of_wr W_23).1
  replace lt_b := Nat.lt_of_lt_of_le lt_b (Keep.of_wr W_23).1
  replace lt_b_21 := Nat.lt_of_lt_of_le lt_b_21 (Keep.of_wr W_23).1
  replace Zs := Nat.le_trans Zs (Keep.of_wr W_23).1
  replace Kp := Kp.wr W_23 (Or.inl (by simp))
  replace F_flags_a := F_flags_a.same W_23
  replace Nf := Fr.snoc X_23 Nf g_a
  refine Win.go st_23 ?_
  clear st_23 W_23 X_22 e_22
  show Win p.tables e below _ (T_23.setTop (mkF m 19 #[.val (.ref a), .val (.int p1), .val (.int p2), .val (.int p3), .val (.int p4), .val (.int p5), .val (.ref b_21)] []))
  refine s_aloadN (pc' := 20) X_23.here hx (hb hby d1_19) rfl rfl rfl ?_
  refine s_iloadN (pc' := 21) X_23.here hx (hb hby d1_20) rfl rfl ?_
  obtain ⟨T_24, h_24, X_24, e_24, W_24, st_24⟩ := putF X_23 hx hZ hown (host := "") (Or.inl (hw _ (List.mem_of_getElem? (i := 26) rfl))) Via.refl e_23 F_tsn_a E_a (Or.inr ⟨(hw _ (List.mem_of_getElem? (i := 27) rfl)), rfl, hnm⟩) (hw _ (List.mem_of_getElem? (i := 2) rfl)) (ty := .int) (by decide) rfl rfl (g := (mkF m 21 #[.val (.ref a), .val (.int p1), .val (.int p2), .val (.int p3), .val (.int p4), .val (.int p5), .val (.ref b_21)] [(.int p2), (.ref a)])) rfl rfl (hb hby d1_21)
  replace E_a := E_a.wr W_24
  replace F_flags_a := F_flags_a.other W_24 (Or.inr (slot_ne (Or.inr (hw _ (List.mem_of_getElem? (i := 25) rfl))) (Or.inr (hw _ (List.mem_of_getElem? (i := 27) rfl))) (by decide) (t := .int) (t' := .int) (by decide) (by decide)))
  replace F_stream_a := F_stream_a.other W_24 (Or.inr (slot_ne (Or.inr (hw _ (List.mem_of_getElem? (i := 29) rfl))) (Or.inr (hw _ (List.mem_of_getElem? (i := 27) rfl))) (by decide) (t := .int) (t' := .int) (by decide) (by decide)))
  replace F_streamSequence_a := F_streamSequence_a.other W_24 (Or.inr (slot_ne (Or.inr (hw _ (List.mem_of_getElem? (i := 31) rfl))) (Or.inr (hw _ (List.mem_of_getElem? (i := 27) rfl))) (by decide) (t := .int) (t' := .int) (by decide) (by decide)))
  replace F_payloadProtocol_a := F_payloadProtocol_a.other W_24 (Or.inr (slot_ne (Or.inr (hw _ (List.mem_of_getElem? (i := 33) rfl))) (Or.inr (hw _ (List.mem_of_getElem? (i := 27) rfl))) (by decide) (t := .int) (t' := .int) (by decide) (by decide)))
  replace F_payload_a := F_payload_a.other W_24 (Or.inr (slot_ne (Or.inr (hw _ (List.mem_of_getElem? (i := 35) rfl))) (Or.inr (hw _ (List.mem_of_getElem? (i := 27) rfl))) (by decide) (t := (.array .byte)) (t' := .int) (by decide) (by decide)))
  replace E_b := E_b.wr W_24
  replace V_b := V_b.other W_24 ne_b_a
  replace V_b_21 := V_b_21.other W_24 (Ne.symm ne_a_b_21)
  replace E_b_21 := E_b_21.wr W_24
  replace lt_a := Nat.lt_of_lt_of_le lt_a (Keep.of_wr W_24).1
  replace lt_b := Nat.lt_of_lt_of_le lt_b (Keep.of_wr W_24).1
  replace lt_b_21 := Nat.lt_of_lt_of_le lt_b_21 (Keep.of_wr W_24).1
  replace Zs := Nat.le_trans Zs (Keep.of_wr W_24).1
  replace Kp := Kp.wr W_24 (Or.inl (by simp))
  replace F_tsn_a := F_tsn_a.same W_24
  replace Nf := Fr.snoc X_24 Nf g_a
  refine Win.go st_24 ?_
  clear st_24 W_24 X_23 e_23
  show Win p.tables e below _ (T_24.setTop (mkF m 24 #[.val (.ref a), .val (.int p1), .val (.int p2), .val (.int p3), .val (.int p4), .val (.int p5), .val (.ref b_21)] []))
  refine s_aloadN (pc' := 25) X_24.here hx (hb hby d1_24) rfl rfl rfl ?_
  refine s_iloadN (pc' := 26) X_24.here hx (hb hby d1_25) rfl rfl ?_
  obtain ⟨T_25, h_25, X_25, e_25, W_25, st_25⟩ := putF X_24 hx hZ hown (host := "") (Or.inl (hw _ (List.mem_of_getElem? (i := 28) rfl))) Via.refl e_24 F_stream_a E_a (Or.inr ⟨(hw _ (List.mem_of_getElem? (i := 29) rfl)), rfl, hnm⟩) (hw _ (List.mem_of_getElem? (i := 2) rfl)) (ty := .int) (by decide) rfl rfl (g := (mkF m 26 #[.val (.ref a), .val (.int p1), .val (.int p2), .val (.int p3), .val (.int p4), .val (.int p5), .val (.ref b_21)] [(.int p3), (.ref a)])) rfl rfl (hb hby d1_26)
  replace E_a := E_a.wr W_25
  replace F_flags_a := F_flags_a.other W_25 (Or.inr (slot_ne (Or.inr (hw _ (List.mem_of_getElem? (i := 25) rfl))) (Or.inr (hw _ (List.mem_of_getElem? (i := 29) rfl))) (by decide) (t := .int) (t' := .int) (by decide) (by decide)))
  replace F_tsn_a := F_tsn_a.other W_25 (Or.inr (slot_ne (Or.inr (hw _ (List.mem_of_getElem? (i := 27) rfl))) (Or.inr (hw _ (List.mem_of_getElem? (i := 29) rfl))) (by decide) (t := .int) (t' := .int) (by decide) (by decide)))
  replace F_streamSequence_a := F_streamSequence_a.other W_25 (Or.inr (slot_ne (Or.inr (hw _ (List.mem_of_getElem? (i := 31) rfl))) (Or.inr (hw _ (List.mem_of_getElem? (i := 29) rfl))) (by decide) (t := .int) (t' := .int) (by decide) (by decide)))
  replace F_payloadProtocol_a := F_payloadProtocol_a.other W_25 (Or.inr (slot_ne (Or.inr (hw _ (List.mem_of_getElem? (i := 33) rfl))) (Or.inr (hw _ (List.mem_of_getElem? (i := 29) rfl))) (by decide) (t := .int) (t' := .int) (by decide) (by decide)))
  replace F_payload_a := F_payload_a.other W_25 (Or.inr (slot_ne (Or.inr (hw _ (List.mem_of_getElem? (i := 35) rfl))) (Or.inr (hw _ (List.mem_of_getElem? (i := 29) rfl))) (by decide) (t := (.array .byte)) (t' := .int) (by decide) (by decide)))
  replace E_b := E_b.wr W_25
  replace V_b := V_b.other W_25 ne_b_a
  replace V_b_21 := V_b_21.other W_25 (Ne.symm ne_a_b_21)
  replace E_b_21 := E_b_21.wr W_25
  replace lt_a := Nat.lt_of_lt_of_le lt_a (Keep.of_wr W_25).1
  replace lt_b := Nat.lt_of_lt_of_le lt_b (Keep.of_wr W_25).1
  replace lt_b_21 := Nat.lt_of_lt_of_le lt_b_21 (Keep.of_wr W_25).1
  replace Zs := Nat.le_trans Zs (Keep.of_wr W_25).1
  replace Kp := Kp.wr W_25 (Or.inl (by simp))
  replace F_stream_a := F_stream_a.same W_25
  replace Nf := Fr.snoc X_25 Nf g_a
  refine Win.go st_25 ?_
  clear st_25 W_25 X_24 e_24
  show Win p.tables e below _ (T_25.setTop (mkF m 29 #[.val (.ref a), .val (.int p1), .val (.int p2), .val (.int p3), .val (.int p4), .val (.int p5), .val (.ref b_21)] []))
  refine s_aloadN (pc' := 30) X_25.here hx (hb hby d1_29) rfl rfl rfl ?_
  refine s_iload (pc' := 32) X_25.here hx (hb hby d1_30) rfl rfl ?_
  obtain ⟨T_26, h_26, X_26, e_26, W_26, st_26⟩ := putF X_25 hx hZ hown (host := "") (Or.inl (hw _ (List.mem_of_getElem? (i := 30) rfl))) Via.refl e_25 F_streamSequence_a E_a (Or.inr ⟨(hw _ (List.mem_of_getElem? (i := 31) rfl)), rfl, hnm⟩) (hw _ (List.mem_of_getElem? (i := 2) rfl)) (ty := .int) (by decide) rfl rfl (g := (mkF m 32 #[.val (.ref a), .val (.int p1), .val (.int p2), .val (.int p3), .val (.int p4), .val (.int p5), .val (.ref b_21)] [(.int p4), (.ref a)])) rfl rfl (hb hby d1_32)
  replace E_a := E_a.wr W_26
  replace F_flags_a := F_flags_a.other W_26 (Or.inr (slot_ne (Or.inr (hw _ (List.mem_of_getElem? (i := 25) rfl))) (Or.inr (hw _ (List.mem_of_getElem? (i := 31) rfl))) (by decide) (t := .int) (t' := .int) (by decide) (by decide)))
  replace F_tsn_a := F_tsn_a.other W_26 (Or.inr (slot_ne (Or.inr (hw _ (List.mem_of_getElem? (i := 27) rfl))) (Or.inr (hw _ (List.mem_of_getElem? (i := 31) rfl))) (by decide) (t := .int) (t' := .int) (by decide) (by decide)))
  replace F_stream_a := F_stream_a.other W_26 (Or.inr (slot_ne (Or.inr (hw _ (List.mem_of_getElem? (i := 29) rfl))) (Or.inr (hw _ (List.mem_of_getElem? (i := 31) rfl))) (by decide) (t := .int) (t' := .int) (by decide) (by decide)))
  replace F_payloadProtocol_a := F_payloadProtocol_a.other W_26 (Or.inr (slot_ne (Or.inr (hw _ (List.mem_of_getElem? (i := 33) rfl))) (Or.inr (hw _ (List.mem_of_getElem? (i := 31) rfl))) (by decide) (t := .int) (t' := .int) (by decide) (by decide)))
  replace F_payload_a := F_payload_a.other W_26 (Or.inr (slot_ne (Or.inr (hw _ (List.mem_of_getElem? (i := 35) rfl))) (Or.inr (hw _ (List.mem_of_getElem? (i := 31) rfl))) (by decide) (t := (.array .byte)) (t' := .int) (by decide) (by decide)))
  replace E_b := E_b.wr W_26
  replace V_b := V_b.other W_26 ne_b_a
  replace V_b_21 := V_b_21.other W_26 (Ne.symm ne_a_b_21)
  replace E_b_21 := E_b_21.wr W_26
  replace lt_a := Nat.lt_of_lt_of_le lt_a (Keep.of_wr W_26).1
  replace lt_b := Nat.lt_of_lt_of_le lt_b (Keep.of_wr W_26).1
  replace lt_b_21 := Nat.lt_of_lt_of_le lt_b_21 (Keep.of_wr W_26).1
  replace Zs := Nat.le_trans Zs (Keep.of_wr W_26).1
  replace Kp := Kp.wr W_26 (Or.inl (by simp))
  replace F_streamSequence_a := F_streamSequence_a.same W_26
  replace Nf := Fr.snoc X_26 Nf g_a
  refine Win.go st_26 ?_
  clear st_26 W_26 X_25 e_25
  show Win p.tables e below _ (T_26.setTop (mkF m 35 #[.val (.ref a), .val (.int p1), .val (.int p2), .val (.int p3), .val (.int p4), .val (.int p5), .val (.ref b_21)] []))
  refine s_aloadN (pc' := 36) X_26.here hx (hb hby d1_35) rfl rfl rfl ?_
  refine s_iload (pc' := 38) X_26.here hx (hb hby d1_36) rfl rfl ?_
  obtain ⟨T_27, h_27, X_27, e_27, W_27, st_27⟩ := putF X_26 hx hZ hown (host := "") (Or.inl (hw _ (List.mem_of_getElem? (i := 32) rfl))) Via.refl e_26 F_payloadProtocol_a E_a (Or.inr ⟨(hw _ (List.mem_of_getElem? (i := 33) rfl)), rfl, hnm⟩) (hw _ (List.mem_of_getElem? (i := 2) rfl)) (ty := .int) (by decide) rfl rfl (g := (mkF m 38 #[.val (.ref a), .val (.int p1), .val (.int p2), .val (.int p3), .val (.int p4), .val (.int p5), .val (.ref b_21)] [(.int p5), (.ref a)])) rfl rfl (hb hby d1_38)
  replace E_a := E_a.wr W_27
  replace F_flags_a := F_flags_a.other W_27 (Or.inr (slot_ne (Or.inr (hw _ (List.mem_of_getElem? (i := 25) rfl))) (Or.inr (hw _ (List.mem_of_getElem? (i := 33) rfl))) (by decide) (t := .int) (t' := .int) (by decide) (by decide)))
  replace F_tsn_a := F_tsn_a.other W_27 (Or.inr (slot_ne (Or.inr (hw _ (List.mem_of_getElem? (i := 27) rfl))) (Or.inr (hw _ (List.mem_of_getElem? (i := 33) rfl))) (by decide) (t := .int) (t' := .int) (by decide) (by decide)))
  replace F_stream_a := F_stream_a.other W_27 (Or.inr (slot_ne (Or.inr (hw _ (List.mem_of_getElem? (i := 29) rfl))) (Or.inr (hw _ (List.mem_of_getElem? (i := 33) rfl))) (by decide) (t := .int) (t' := .int) (by decide) (by decide)))
  replace F_streamSequence_a := F_streamSequence_a.other W_27 (Or.inr (slot_ne (Or.inr (hw _ (List.mem_of_getElem? (i := 31) rfl))) (Or.inr (hw _ (List.mem_of_getElem? (i := 33) rfl))) (by decide) (t := .int) (t' := .int) (by decide) (by decide)))
  replace F_payload_a := F_payload_a.other W_27 (Or.inr (slot_ne (Or.inr (hw _ (List.mem_of_getElem? (i := 35) rfl))) (Or.inr (hw _ (List.mem_of_getElem? (i := 33) rfl))) (by decide) (t := (.array .byte)) (t' := .int) (by decide) (by decide)))
  replace E_b := E_b.wr W_27
  replace V_b := V_b.other W_27 ne_b_a
  replace V_b_21 := V_b_21.other W_27 (Ne.symm ne_a_b_21)
  replace E_b_21 := E_b_21.wr W_27
  replace lt_a := Nat.lt_of_lt_of_le lt_a (Keep.of_wr W_27).1
  replace lt_b := Nat.lt_of_lt_of_le lt_b (Keep.of_wr W_27).1
  replace lt_b_21 := Nat.lt_of_lt_of_le lt_b_21 (Keep.of_wr W_27).1
  replace Zs := Nat.le_trans Zs (Keep.of_wr W_27).1
  replace Kp := Kp.wr W_27 (Or.inl (by simp))
  replace F_payloadProtocol_a := F_payloadProtocol_a.same W_27
  replace Nf := Fr.snoc X_27 Nf g_a
  refine Win.go st_27 ?_
  clear st_27 W_27 X_26 e_26
  show Win p.tables e below _ (T_27.setTop (mkF m 41 #[.val (.ref a), .val (.int p1), .val (.int p2), .val (.int p3), .val (.int p4), .val (.int p5), .val (.ref b_21)] []))
  refine s_aloadN (pc' := 42) X_27.here hx (hb hby d1_41) rfl rfl rfl ?_
  refine s_aload (pc' := 44) X_27.here hx (hb hby d1_42) rfl rfl rfl ?_
  obtain ⟨T_28, h_28, X_28, e_28, W_28, st_28⟩ := putF X_27 hx hZ hown (host := "") (Or.inl (hw _ (List.mem_of_getElem? (i := 34) rfl))) Via.refl e_27 F_payload_a E_a (Or.inr ⟨(hw _ (List.mem_of_getElem? (i := 35) rfl)), rfl, hnm⟩) (hw _ (List.mem_of_getElem? (i := 2) rfl)) (ty := (.array .byte)) (by decide) rfl rfl (g := (mkF m 44 #[.val (.ref a), .val (.int p1), .val (.int p2), .val (.int p3), .val (.int p4), .val (.int p5), .val (.ref b_21)] [(.ref b_21), (.ref a)])) rfl rfl (hb hby d1_44)
  replace E_a := E_a.wr W_28
  replace F_flags_a := F_flags_a.other W_28 (Or.inr (slot_ne (Or.inr (hw _ (List.mem_of_getElem? (i := 25) rfl))) (Or.inr (hw _ (List.mem_of_getElem? (i := 35) rfl))) (by decide) (t := .int) (t' := (.array .byte)) (by decide) (by decide)))
  replace F_tsn_a := F_tsn_a.other W_28 (Or.inr (slot_ne (Or.inr (hw _ (List.mem_of_getElem? (i := 27) rfl))) (Or.inr (hw _ (List.mem_of_getElem? (i := 35) rfl))) (by decide) (t := .int) (t' := (.array .byte)) (by decide) (by decide)))
  replace F_stream_a := F_stream_a.other W_28 (Or.inr (slot_ne (Or.inr (hw _ (List.mem_of_getElem? (i := 29) rfl))) (Or.inr (hw _ (List.mem_of_getElem? (i := 35) rfl))) (by decide) (t := .int) (t' := (.array .byte)) (by decide) (by decide)))
  replace F_streamSequence_a := F_streamSequence_a.other W_28 (Or.inr (slot_ne (Or.inr (hw _ (List.mem_of_getElem? (i := 31) rfl))) (Or.inr (hw _ (List.mem_of_getElem? (i := 35) rfl))) (by decide) (t := .int) (t' := (.array .byte)) (by decide) (by decide)))
  replace F_payloadProtocol_a := F_payloadProtocol_a.other W_28 (Or.inr (slot_ne (Or.inr (hw _ (List.mem_of_getElem? (i := 33) rfl))) (Or.inr (hw _ (List.mem_of_getElem? (i := 35) rfl))) (by decide) (t := .int) (t' := (.array .byte)) (by decide) (by decide)))
  replace E_b := E_b.wr W_28
  replace V_b := V_b.other W_28 ne_b_a
  replace V_b_21 := V_b_21.other W_28 (Ne.symm ne_a_b_21)
  replace E_b_21 := E_b_21.wr W_28
  replace lt_a := Nat.lt_of_lt_of_le lt_a (Keep.of_wr W_28).1
  replace lt_b := Nat.lt_of_lt_of_le lt_b (Keep.of_wr W_28).1
  replace lt_b_21 := Nat.lt_of_lt_of_le lt_b_21 (Keep.of_wr W_28).1
  replace Zs := Nat.le_trans Zs (Keep.of_wr W_28).1
  replace Kp := Kp.wr W_28 (Or.inl (by simp))
  replace F_payload_a := F_payload_a.same W_28
  replace Nf := Fr.snoc X_28 Nf g_a
  refine Win.go st_28 ?_
  clear st_28 W_28 X_27 e_27
  show Win p.tables e below _ (T_28.setTop (mkF m 47 #[.val (.ref a), .val (.int p1), .val (.int p2), .val (.int p3), .val (.int p4), .val (.int p5), .val (.ref b_21)] []))
  refine winV X_28 hx hlk e_28 Bd.returns (hb hby d1_47) (by decide) (by decide) ?_
  exact ⟨Nf, Kp, F_flags_a, rfl⟩
theorem ef_1_3 (m : MethodId) (a : Addr) (p1 : Int32) (p2 : Int32) (p3 : Int32) (p4 : Int32) (p5 : Int32) (b : Addr) : entryFrame m #[(.ref a), (.int p1), (.int p2), (.int p3), (.int p4), (.int p5), (.ref b)] 7 = mkF m 0 #[.val (.ref a), .val (.int p1), .val (.int p2), .val (.int p3), .val (.int p4), .val (.int p5), .val (.ref b)] [] := by first | (simp [entryFrame, mkF, argsToLocals, Value.category]; done) | rfl
def Q1_3 (Z : State) (a : Addr) (p1 : Int32) (p2 : Int32) (p3 : Int32) (p4 : Int32) (p5 : Int32) (b : Addr) (kk : ClassId) (h0 : Heap) (n0 : Nat) (v : Option Value) (h : Heap) (L : List Loc) : Prop := Fr n0 L ∧ Keep h0 h [a] ∧ Fld Z h a "com/example/pointcode/pointcode/sctp/DataChunk" "flags" "I" (.int p1) ∧ v = none
set_option maxRecDepth 65536 in
set_option maxHeartbeats 40000000 in
theorem rm1_3 (l : Launch) (Z : State) (a0 : Array Value) (hw : ∀ d ∈ tables_1, d.before a0 Z = true) (ws : List Jvm.Cond) (a : Addr) (p1 : Int32) (p2 : Int32) (p3 : Int32) (p4 : Int32) (p5 : Int32) (b : Addr) (kk : ClassId) (h0 : Heap) (n0 : Nat) (Zs : n0 ≤ h0.size) (E_a : Exa Z h0 a "com/example/pointcode/pointcode/sctp/DataChunk") (F_flags_a : Fld Z h0 a "com/example/pointcode/pointcode/sctp/DataChunk" "flags" "I" (.int (0 : Int32))) (F_tsn_a : Fld Z h0 a "com/example/pointcode/pointcode/sctp/DataChunk" "tsn" "I" (.int (0 : Int32))) (F_stream_a : Fld Z h0 a "com/example/pointcode/pointcode/sctp/DataChunk" "stream" "I" (.int (0 : Int32))) (F_streamSequence_a : Fld Z h0 a "com/example/pointcode/pointcode/sctp/DataChunk" "streamSequence" "I" (.int (0 : Int32))) (F_payloadProtocol_a : Fld Z h0 a "com/example/pointcode/pointcode/sctp/DataChunk" "payloadProtocol" "I" (.int (0 : Int32))) (F_payload_a : Fld Z h0 a "com/example/pointcode/pointcode/sctp/DataChunk" "payload" "[B" .null) (g_a : n0 ≤ a) (E_b : Exa Z h0 b "[B") (V_b : Arv Z h0 b kk .byte (3 : Int32) [(.int (0 : Int32)), (.int (0 : Int32)), (.int (0 : Int32))] (.int (0 : Int32))) (ne_b_a : b ≠ a) :
    MetFree l (⟨"com/example/pointcode/pointcode/sctp/DataChunk", "<init>", "(IIIII[B)V"⟩ : MethodName) (head1 (Jvm.Cond.code (⟨"com/example/pointcode/pointcode/sctp/DataChunk", "<init>", "(IIIII[B)V"⟩ : MethodName) prog_93_method_1_code 7 none :: ws) ({ frames := 2, cells := 1, slots := 3, locals := 24 } : Room)) (fun as' U => as' = #[(.ref a), (.int p1), (.int p2), (.int p3), (.int p4), (.int p5), (.ref b)] ∧ Z.Warmed39 U.vm ∧ U.heap = h0) (fun _ _ _ _ _ => True) (fun _ U o U' => ∃ v L, o = .returned v ∧ Q1_3 Z a p1 p2 p3 p4 p5 b kk h0 n0 v U'.heap L ∧ FrameEnd U o U' L ({ frames := 2, cells := 1, slots := 3, locals := 24 } : Room).cells ({ frames := 2, cells := 1, slots := 3, locals := 24 } : Room).slots) := by
  refine MetFree.of_bodySF (plainFor_of_name pn_1) hisR ?_
  intro p e s m args below meth c s₁ Bd hml0 hP hK
  obtain ⟨rfl, hZ, hh⟩ := hP
  have hx := Bd.exec
  have hby := Bd.bytes
  have hml : c.maxLocals = 7 := hml0
  have hown : s.vm.findClass "com/example/pointcode/pointcode/sctp/DataChunk" = some m.cls := findClass_of_methodNamed Bd.named
  have hnm := (name_of_methodNamed Bd.named Bd.method).1
  have hlk : meth.locks = false := Bd.notSynchronized
  have X0 : Stand p l e ({ frames := 2, cells := 1, slots := 3, locals := 24 } : Room) s m #[(.ref a), (.int p1), (.int p2), (.int p3), (.int p4), (.int p5), (.ref b)] below meth c s₁ [] 0 0 := Stand.of_body Bd
  have e0 : s₁.heap = h0 := by rw [← hh, Bd.state]; rfl
  have Nf := Fr.nil n0
  refine (?_ : Win p.tables e below (PostQ s (Q1_3 Z a p1 p2 p3 p4 p5 b kk h0 n0) ({ frames := 2, cells := 1, slots := 3, locals := 24 } : Room).cells ({ frames := 2, cells := 1, slots := 3, locals := 24 } : Room).slots) (s₁.setTop (entryFrame m #[(.ref a), (.int p1), (.int p2), (.int p3), (.int p4), (.int p5), (.ref b)] 7)))
  rw [ef_1_3]
  have Kp : Keep h0 h0 [a] := Keep.refl h0 _
  have lt_a : a < h0.size := E_a.lt
  have lt_b : b < h0.size := E_b.lt
  show Win p.tables e below _ (s₁.setTop (mkF m 0 #[.val (.ref a), .val (.int p1), .val (.int p2), .val (.int p3), .val (.int p4), .val (.int p5), .val (.ref b)] []))
  refine s_aloadN (pc' := 1) X0.here hx (hb hby d1_0) rfl rfl rfl ?_
  obtain ⟨_, _, ⟨T_29, L_29, k_29, n_29⟩, -, X_29, ⟨Lc_29, hQ_29, l_29, y_29, z_29⟩, st_29⟩ := X0.specialBack hx (y := (⟨"java/lang/Record", "<init>", "()V"⟩ : MethodName)) rfl hown (mvT hZ (hw _ (List.mem_of_getElem? (i := 7) rfl))) (mvT hZ (hw _ (List.mem_of_getElem? (i := 8) rfl))) (mvT hZ (hw _ (List.mem_of_getElem? (i := 11) rfl))) (by decide) (backOf (W := 0) (rm2 l Z a0 hw [] a h0 n0 Zs ) hZ (hw _ (List.mem_of_getElem? (i := 11) rfl)) (hw _ (List.mem_of_getElem? (i := 10) rfl)) (by decide) (by decide)) (g := (mkF m 1 #[.val (.ref a), .val (.int p1), .val (.int p2), .val (.int p3), .val (.int p4), .val (.int p5), .val (.ref b)] [(.ref a)])) rfl (by rw [hml]; rfl) (Steps.refl _) (a := a) (argsL := []) (rest := []) (lenOf pd_0 rfl) rfl (by show 2 * 0 + _ ≤ _; exact Nat.le_of_eq rfl) (hb hby d1_1) (fun _ _ => ⟨rfl, e0, (by decide : 0 + 0 ≤ _), (by decide : 0 + 0 ≤ _)⟩)
  dsimp only [Pt.U, Pt.locs, Pt.cells, Pt.slots] at X_29 l_29 y_29 z_29 st_29 hQ_29
  subst l_29 y_29 z_29
  obtain ⟨Nq_29, e_29, rfl⟩ := hQ_29
  replace Nf := Fr.app Nf Nq_29
  refine Win.come st_29 ?_
  clear st_29 Nq_29 X0 e0
  show Win p.tables e below _ (T_29.setTop (mkF m 4 #[.val (.ref a), .val (.int p1), .val (.int p2), .val (.int p3), .val (.int p4), .val (.int p5), .val (.ref b)] []))
  refine s_aload (pc' := 6) X_29.here hx (hb hby d1_4) rfl rfl rfl ?_
  obtain ⟨T_30, h_30, X_30, e_30, Ex_30, A_30, EA_30, st_30⟩ := cloneH X_29 hx hZ hown (hw _ (List.mem_of_getElem? (i := 15) rfl)) (hw _ (List.mem_of_getElem? (i := 16) rfl)) (hw _ (List.mem_of_getElem? (i := 20) rfl)) (hw _ (List.mem_of_getElem? (i := 18) rfl)) (hw _ (List.mem_of_getElem? (i := 19) rfl)) (hw _ (List.mem_of_getElem? (i := 21) rfl)) e_29 (Arv.arh V_b) E_b (g := (mkF m 6 #[.val (.ref a), .val (.int p1), .val (.int p2), .val (.int p3), .val (.int p4), .val (.int p5), .val (.ref b)] [(.ref b)])) rfl (by rw [hml]; rfl) rfl (hb hby d1_6) (by decide) (W := 0) (by show 2 * 0 + _ ≤ _; exact Nat.le_of_eq rfl) (by decide) (cap := 3) (by decide) (by decide) (by decide)
  obtain ⟨b_30, g_30⟩ : ∃ z, z = h0.size := ⟨_, rfl⟩
  have ne_a_b_30 : a ≠ b_30 := Nat.ne_of_lt (Nat.lt_of_lt_of_le lt_a (Nat.le_of_eq g_30.symm))
  have ne_b_b_30 : b ≠ b_30 := Nat.ne_of_lt (Nat.lt_of_lt_of_le lt_b (Nat.le_of_eq g_30.symm))
  have g_b_30 : n0 ≤ b_30 := Nat.le_trans Zs (Nat.le_of_eq g_30.symm)
  have sz_b_30 : h0.size ≤ b_30 := Nat.le_trans Kp.1 (Nat.le_of_eq g_30.symm)
  rw [← g_30] at A_30 EA_30 st_30
  replace E_a := E_a.ext Ex_30
  replace F_flags_a := F_flags_a.ext Ex_30
  replace F_tsn_a := F_tsn_a.ext Ex_30
  replace F_stream_a := F_stream_a.ext Ex_30
  replace F_streamSequence_a := F_streamSequence_a.ext Ex_30
  replace F_payloadProtocol_a := F_payloadProtocol_a.ext Ex_30
  replace F_payload_a := F_payload_a.ext Ex_30
  replace E_b := E_b.ext Ex_30
  replace V_b := V_b.ext Ex_30
  replace lt_a := Nat.lt_of_lt_of_le lt_a Ex_30.1
  replace lt_b := Nat.lt_of_lt_of_le lt_b Ex_30.1
  replace Zs := Nat.le_trans Zs Ex_30.1
  replace Kp := Kp.ext Ex_30
  have V_b_30 : Arv Z h_30 b_30 kk .byte (3 : Int32) [(.int (0 : Int32)), (.int (0 : Int32)), (.int (0 : Int32))] (.int (0 : Int32)) := A_30
  have lt_b_30 := V_b_30.lt
  have E_b_30 := EA_30
  refine Win.go st_30 ?_
  clear st_30 Ex_30 A_30 EA_30 g_30 X_29 e_29
  show Win p.tables e below _ (T_30.setTop (mkF m 9 #[.val (.ref a), .val (.int p1), .val (.int p2), .val (.int p3), .val (.int p4), .val (.int p5), .val (.ref b)] [(.ref b_30)]))
  obtain ⟨T_31, X_31, e_31, st_31⟩ := castY X_30 hx hZ hown (hw _ (List.mem_of_getElem? (i := 22) rfl)) e_30 (Ins.self E_b_30) (g := (mkF m 9 #[.val (.ref a), .val (.int p1), .val (.int p2), .val (.int p3), .val (.int p4), .val (.int p5), .val (.ref b)] [(.ref b_30)])) rfl rfl (hb hby d1_9)
  refine Win.go st_31 ?_
  show Win p.tables e below _ (T_31.setTop (mkF m 12 #[.val (.ref a), .val (.int p1), .val (.int p2), .val (.int p3), .val (.int p4), .val (.int p5), .val (.ref b)] [(.ref b_30)]))
  refine s_astore (pc' := 14) (l' := #[.val (.ref a), .val (.int p1), .val (.int p2), .val (.int p3), .val (.int p4), .val (.int p5), .val (.ref b_30)]) X_31.here hx (hb hby d1_12) rfl rfl rfl ?_
  refine s_aloadN (pc' := 15) X_31.here hx (hb hby d1_14) rfl rfl rfl ?_
  refine s_iloadN (pc' := 16) X_31.here hx (hb hby d1_15) rfl rfl ?_
  obtain ⟨T_32, h_32, X_32, e_32, W_32, st_32⟩ := putF X_31 hx hZ hown (host := "") (Or.inl (hw _ (List.mem_of_getElem? (i := 24) rfl))) Via.refl e_31 F_flags_a E_a (Or.inr ⟨(hw _ (List.mem_of_getElem? (i := 25) rfl)), rfl, hnm⟩) (hw _ (List.mem_of_getElem? (i := 2) rfl)) (ty := .int) (by decide) rfl rfl (g := (mkF m 16 #[.val (.ref a), .val (.int p1), .val (.int p2), .val (.int p3), .val (.int p4), .val (.int p5), .val (.ref b_30)] [(.int p1), (.ref a)])) rfl rfl (hb hby d1_16)
  replace E_a := E_a.wr W_32
  replace F_tsn_a := F_tsn_a.other W_32 (Or.inr (slot_ne (Or.inr (hw _ (List.mem_of_getElem? (i := 27) rfl))) (Or.inr (hw _ (List.mem_of_getElem? (i := 25) rfl))) (by decide) (t := .int) (t' := .int) (by decide) (by decide)))
  replace F_stream_a := F_stream_a.other W_32 (Or.inr (slot_ne (Or.inr (hw _ (List.mem_of_getElem? (i := 29) rfl))) (Or.inr (hw _ (List.mem_of_getElem? (i := 25) rfl))) (by decide) (t := .int) (t' := .int) (by decide) (by decide)))
  replace F_streamSequence_a := F_streamSequence_a.other W_32 (Or.inr (slot_ne (Or.inr (hw _ (List.mem_of_getElem? (i := 31) rfl))) (Or.inr (hw _ (List.mem_of_getElem? (i := 25) rfl))) (by decide) (t := .int) (t' := .int) (by decide) (by decide)))
  replace F_payloadProtocol_a := F_payloadProtocol_a.other W_32 (Or.inr (slot_ne (Or.inr (hw _ (List.mem_of_getElem? (i := 33) rfl))) (Or.inr (hw _ (List.mem_of_getElem? (i := 25) rfl))) (by decide) (t := .int) (t' := .int) (by decide) (by decide)))
  replace F_payload_a := F_payload_a.other W_32 (Or.inr (slot_ne (Or.inr (hw _ (List.mem_of_getElem? (i := 35) rfl))) (Or.inr (hw _ (List.mem_of_getElem? (i := 25) rfl))) (by decide) (t := (.array .byte)) (t' := .int) (by decide) (by decide)))
  replace E_b := E_b.wr W_32
  replace V_b := V_b.other W_32 ne_b_a
  replace V_b_30 := V_b_30.other W_32 (Ne.symm ne_a_b_30)
  replace E_b_30 := E_b_30.wr W_32
  replace lt_a := Nat.lt_of_lt_of_le lt_a (Keep.of_wr W_32).1
  replace lt_b := Nat.lt_of_lt_of_le lt_b (Keep.of_wr W_32).1
  replace lt_b_30 := Nat.lt_of_lt_of_le lt_b_30 (Keep.of_wr W_32).1
  replace Zs := Nat.le_trans Zs (Keep.of_wr W_32).1
  replace Kp := Kp.wr W_32 (Or.inl (by simp))
  replace F_flags_a := F_flags_a.same W_32
  replace Nf := Fr.snoc X_32 Nf g_a
  refine Win.go st_32 ?_
  clear st_32 W_32 X_31 e_31
  show Win p.tables e below _ (T_32.setTop (mkF m 19 #[.val (.ref a), .val (.int p1), .val (.int p2), .val (.int p3), .val (.int p4), .val (.int p5), .val (.ref b_30)] []))
  refine s_aloadN (pc' := 20) X_32.here hx (hb hby d1_19) rfl rfl rfl ?_
  refine s_iloadN (pc' := 21) X_32.here hx (hb hby d1_20) rfl rfl ?_
  obtain ⟨T_33, h_33, X_33, e_33, W_33, st_33⟩ := putF X_32 hx hZ hown (host := "") (Or.inl (hw _ (List.mem_of_getElem? (i := 26) rfl))) Via.refl e_32 F_tsn_a E_a (Or.inr ⟨(hw _ (List.mem_of_getElem? (i := 27) rfl)), rfl, hnm⟩) (hw _ (List.mem_of_getElem? (i := 2) rfl)) (ty := .int) (by decide) rfl rfl (g := (mkF m 21 #[.val (.ref a), .val (.int p1), .val (.int p2), .val (.int p3), .val (.int p4), .val (.int p5), .val (.ref b_30)] [(.int p2), (.ref a)])) rfl rfl (hb hby d1_21)
  replace E_a := E_a.wr W_33
  replace F_flags_a := F_flags_a.other W_33 (Or.inr (slot_ne (Or.inr (hw _ (List.mem_of_getElem? (i := 25) rfl))) (Or.inr (hw _ (List.mem_of_getElem? (i := 27) rfl))) (by decide) (t := .int) (t' := .int) (by decide) (by decide)))
  replace F_stream_a := F_stream_a.other W_33 (Or.inr (slot_ne (Or.inr (hw _ (List.mem_of_getElem? (i := 29) rfl))) (Or.inr (hw _ (List.mem_of_getElem? (i := 27) rfl))) (by decide) (t := .int) (t' := .int) (by decide) (by decide)))
  replace F_streamSequence_a := F_streamSequence_a.other W_33 (Or.inr (slot_ne (Or.inr (hw _ (List.mem_of_getElem? (i := 31) rfl))) (Or.inr (hw _ (List.mem_of_getElem? (i := 27) rfl))) (by decide) (t := .int) (t' := .int) (by decide) (by decide)))
  replace F_payloadProtocol_a := F_payloadProtocol_a.other W_33 (Or.inr (slot_ne (Or.inr (hw _ (List.mem_of_getElem? (i := 33) rfl))) (Or.inr (hw _ (List.mem_of_getElem? (i := 27) rfl))) (by decide) (t := .int) (t' := .int) (by decide) (by decide)))
  replace F_payload_a := F_payload_a.other W_33 (Or.inr (slot_ne (Or.inr (hw _ (List.mem_of_getElem? (i := 35) rfl))) (Or.inr (hw _ (List.mem_of_getElem? (i := 27) rfl))) (by decide) (t := (.array .byte)) (t' := .int) (by decide) (by decide)))
  replace E_b := E_b.wr W_33
  replace V_b := V_b.other W_33 ne_b_a
  replace V_b_30 := V_b_30.other W_33 (Ne.symm ne_a_b_30)
  replace E_b_30 := E_b_30.wr W_33
  replace lt_a := Nat.lt_of_lt_of_le lt_a (Keep.of_wr W_33).1
  replace lt_b := Nat.lt_of_lt_of_le lt_b (Keep.of_wr W_33).1
  replace lt_b_30 := Nat.lt_of_lt_of_le lt_b_30 (Keep.of_wr W_33).1
  replace Zs := Nat.le_trans Zs (Keep.of_wr W_33).1
  replace Kp := Kp.wr W_33 (Or.inl (by simp))
  replace F_tsn_a := F_tsn_a.same W_33
  replace Nf := Fr.snoc X_33 Nf g_a
  refine Win.go st_33 ?_
  clear st_33 W_33 X_32 e_32
  show Win p.tables e below _ (T_33.setTop (mkF m 24 #[.val (.ref a), .val (.int p1), .val (.int p2), .val (.int p3), .val (.int p4), .val (.int p5), .val (.ref b_30)] []))
  refine s_aloadN (pc' := 25) X_33.here hx (hb hby d1_24) rfl rfl rfl ?_
  refine s_iloadN (pc' := 26) X_33.here hx (hb hby d1_25) rfl rfl ?_
  obtain ⟨T_34, h_34, X_34, e_34, W_34, st_34⟩ := putF X_33 hx hZ hown (host := "") (Or.inl (hw _ (List.mem_of_getElem? (i := 28) rfl))) Via.refl e_33 F_stream_a E_a (Or.inr ⟨(hw _ (List.mem_of_getElem? (i := 29) rfl)), rfl, hnm⟩) (hw _ (List.mem_of_getElem? (i := 2) rfl)) (ty := .int) (by decide) rfl rfl (g := (mkF m 26 #[.val (.ref a), .val (.int p1), .val (.int p2), .val (.int p3), .val (.int p4), .val (.int p5), .val (.ref b_30)] [(.int p3), (.ref a)])) rfl rfl (hb hby d1_26)
  replace E_a := E_a.wr W_34
  replace F_flags_a := F_flags_a.other W_34 (Or.inr (slot_ne (Or.inr (hw _ (List.mem_of_getElem? (i := 25) rfl))) (Or.inr (hw _ (List.mem_of_getElem? (i := 29) rfl))) (by decide) (t := .int) (t' := .int) (by decide) (by decide)))
  replace F_tsn_a := F_tsn_a.other W_34 (Or.inr (slot_ne (Or.inr (hw _ (List.mem_of_getElem? (i := 27) rfl))) (Or.inr (hw _ (List.mem_of_getElem? (i := 29) rfl))) (by decide) (t := .int) (t' := .int) (by decide) (by decide)))
  replace F_streamSequence_a := F_streamSequence_a.other W_34 (Or.inr (slot_ne (Or.inr (hw _ (List.mem_of_getElem? (i := 31) rfl))) (Or.inr (hw _ (List.mem_of_getElem? (i := 29) rfl))) (by decide) (t := .int) (t' := .int) (by decide) (by decide)))
  replace F_payloadProtocol_a := F_payloadProtocol_a.other W_34 (Or.inr (slot_ne (Or.inr (hw _ (List.mem_of_getElem? (i := 33) rfl))) (Or.inr (hw _ (List.mem_of_getElem? (i := 29) rfl))) (by decide) (t := .int) (t' := .int) (by decide) (by decide)))
  replace F_payload_a := F_payload_a.other W_34 (Or.inr (slot_ne (Or.inr (hw _ (List.mem_of_getElem? (i := 35) rfl))) (Or.inr (hw _ (List.mem_of_getElem? (i := 29) rfl))) (by decide) (t := (.array .byte)) (t' := .int) (by decide) (by decide)))
  replace E_b := E_b.wr W_34
  replace V_b := V_b.other W_34 ne_b_a
  replace V_b_30 := V_b_30.other W_34 (Ne.symm ne_a_b_30)
  replace E_b_30 := E_b_30.wr W_34
  replace lt_a := Nat.lt_of_lt_of_le lt_a (Keep.of_wr W_34).1
  replace lt_b := Nat.lt_of_lt_of_le lt_b (Keep.of_wr W_34).1
  replace lt_b_30 := Nat.lt_of_lt_of_le lt_b_30 (Keep.of_wr W_34).1
  replace Zs := Nat.le_trans Zs (Keep.of_wr W_34).1
  replace Kp := Kp.wr W_34 (Or.inl (by simp))
  replace F_stream_a := F_stream_a.same W_34
  replace Nf := Fr.snoc X_34 Nf g_a
  refine Win.go st_34 ?_
  clear st_34 W_34 X_33 e_33
  show Win p.tables e below _ (T_34.setTop (mkF m 29 #[.val (.ref a), .val (.int p1), .val (.int p2), .val (.int p3), .val (.int p4), .val (.int p5), .val (.ref b_30)] []))
  refine s_aloadN (pc' := 30) X_34.here hx (hb hby d1_29) rfl rfl rfl ?_
  refine s_iload (pc' := 32) X_34.here hx (hb hby d1_30) rfl rfl ?_
  obtain ⟨T_35, h_35, X_35, e_35, W_35, st_35⟩ := putF X_34 hx hZ hown (host := "") (Or.inl (hw _ (List.mem_of_getElem? (i := 30) rfl))) Via.refl e_34 F_streamSequence_a E_a (Or.inr ⟨(hw _ (List.mem_of_getElem? (i := 31) rfl)), rfl, hnm⟩) (hw _ (List.mem_of_getElem? (i := 2) rfl)) (ty := .int) (by decide) rfl rfl (g := (mkF m 32 #[.val (.ref a), .val (.int p1), .val (.int p2), .val (.int p3), .val (.int p4), .val (.int p5), .val (.ref b_30)] [(.int p4), (.ref a)])) rfl rfl (hb hby d1_32)
  replace E_a := E_a.wr W_35
  replace F_flags_a := F_flags_a.other W_35 (Or.inr (slot_ne (Or.inr (hw _ (List.mem_of_getElem? (i := 25) rfl))) (Or.inr (hw _ (List.mem_of_getElem? (i := 31) rfl))) (by decide) (t := .int) (t' := .int) (by decide) (by decide)))
  replace F_tsn_a := F_tsn_a.other W_35 (Or.inr (slot_ne (Or.inr (hw _ (List.mem_of_getElem? (i := 27) rfl))) (Or.inr (hw _ (List.mem_of_getElem? (i := 31) rfl))) (by decide) (t := .int) (t' := .int) (by decide) (by decide)))
  replace F_stream_a := F_stream_a.other W_35 (Or.inr (slot_ne (Or.inr (hw _ (List.mem_of_getElem? (i := 29) rfl))) (Or.inr (hw _ (List.mem_of_getElem? (i := 31) rfl))) (by decide) (t := .int) (t' := .int) (by decide) (by decide)))
  replace F_payloadProtocol_a := F_payloadProtocol_a.other W_35 (Or.inr (slot_ne (Or.inr (hw _ (List.mem_of_getElem? (i := 33) rfl))) (Or.inr (hw _ (List.mem_of_getElem? (i := 31) rfl))) (by decide) (t := .int) (t' := .int) (by decide) (by decide)))
  replace F_payload_a := F_payload_a.other W_35 (Or.inr (slot_ne (Or.inr (hw _ (List.mem_of_getElem? (i := 35) rfl))) (Or.inr (hw _ (List.mem_of_getElem? (i := 31) rfl))) (by decide) (t := (.array .byte)) (t' := .int) (by decide) (by decide)))
  replace E_b := E_b.wr W_35
  replace V_b := V_b.other W_35 ne_b_a
  replace V_b_30 := V_b_30.other W_35 (Ne.symm ne_a_b_30)
  replace E_b_30 := E_b_30.wr W_35
  replace lt_a := Nat.lt_of_lt_of_le lt_a (Keep.of_wr W_35).1
  replace lt_b := Nat.lt_of_lt_of_le lt_b (Keep.of_wr W_35).1
  replace lt_b_30 := Nat.lt_of_lt_of_le lt_b_30 (Keep.of_wr W_35).1
  replace Zs := Nat.le_trans Zs (Keep.of_wr W_35).1
  replace Kp := Kp.wr W_35 (Or.inl (by simp))
  replace F_streamSequence_a := F_streamSequence_a.same W_35
  replace Nf := Fr.snoc X_35 Nf g_a
  refine Win.go st_35 ?_
  clear st_35 W_35 X_34 e_34
  show Win p.tables e below _ (T_35.setTop (mkF m 35 #[.val (.ref a), .val (.int p1), .val (.int p2), .val (.int p3), .val (.int p4), .val (.int p5), .val (.ref b_30)] []))
  refine s_aloadN (pc' := 36) X_35.here hx (hb hby d1_35) rfl rfl rfl ?_
  refine s_iload (pc' := 38) X_35.here hx (hb hby d1_36) rfl rfl ?_
  obtain ⟨T_36, h_36, X_36, e_36, W_36, st_36⟩ := putF X_35 hx hZ hown (host := "") (Or.inl (hw _ (List.mem_of_getElem? (i := 32) rfl))) Via.refl e_35 F_payloadProtocol_a E_a (Or.inr ⟨(hw _ (List.mem_of_getElem? (i := 33) rfl)), rfl, hnm⟩) (hw _ (List.mem_of_getElem? (i := 2) rfl)) (ty := .int) (by decide) rfl rfl (g := (mkF m 38 #[.val (.ref a), .val (.int p1), .val (.int p2), .val (.int p3), .val (.int p4), .val (.int p5), .val (.ref b_30)] [(.int p5), (.ref a)])) rfl rfl (hb hby d1_38)
  replace E_a := E_a.wr W_36
  replace F_flags_a := F_flags_a.other W_36 (Or.inr (slot_ne (Or.inr (hw _ (List.mem_of_getElem? (i := 25) rfl))) (Or.inr (hw _ (List.mem_of_getElem? (i := 33) rfl))) (by decide) (t := .int) (t' := .int) (by decide) (by decide)))
  replace F_tsn_a := F_tsn_a.other W_36 (Or.inr (slot_ne (Or.inr (hw _ (List.mem_of_getElem? (i := 27) rfl))) (Or.inr (hw _ (List.mem_of_getElem? (i := 33) rfl))) (by decide) (t := .int) (t' := .int) (by decide) (by decide)))
  replace F_stream_a := F_stream_a.other W_36 (Or.inr (slot_ne (Or.inr (hw _ (List.mem_of_getElem? (i := 29) rfl))) (Or.inr (hw _ (List.mem_of_getElem? (i := 33) rfl))) (by decide) (t := .int) (t' := .int) (by decide) (by decide)))
  replace F_streamSequence_a := F_streamSequence_a.other W_36 (Or.inr (slot_ne (Or.inr (hw _ (List.mem_of_getElem? (i := 31) rfl))) (Or.inr (hw _ (List.mem_of_getElem? (i := 33) rfl))) (by decide) (t := .int) (t' := .int) (by decide) (by decide)))
  replace F_payload_a := F_payload_a.other W_36 (Or.inr (slot_ne (Or.inr (hw _ (List.mem_of_getElem? (i := 35) rfl))) (Or.inr (hw _ (List.mem_of_getElem? (i := 33) rfl))) (by decide) (t := (.array .byte)) (t' := .int) (by decide) (by decide)))
  replace E_b := E_b.wr W_36
  replace V_b := V_b.other W_36 ne_b_a
  replace V_b_30 := V_b_30.other W_36 (Ne.symm ne_a_b_30)
  replace E_b_30 := E_b_30.wr W_36
  replace lt_a := Nat.lt_of_lt_of_le lt_a (Keep.of_wr W_36).1
  replace lt_b := Nat.lt_of_lt_of_le lt_b (Keep.of_wr W_36).1
  replace lt_b_30 := Nat.lt_of_lt_of_le lt_b_30 (Keep.of_wr W_36).1
  replace Zs := Nat.le_trans Zs (Keep.of_wr W_36).1
  replace Kp := Kp.wr W_36 (Or.inl (by simp))
  replace F_payloadProtocol_a := F_payloadProtocol_a.same W_36
  replace Nf := Fr.snoc X_36 Nf g_a
  refine Win.go st_36 ?_
  clear st_36 W_36 X_35 e_35
  show Win p.tables e below _ (T_36.setTop (mkF m 41 #[.val (.ref a), .val (.int p1), .val (.int p2), .val (.int p3), .val (.int p4), .val (.int p5), .val (.ref b_30)] []))
  refine s_aloadN (pc' := 42) X_36.here hx (hb hby d1_41) rfl rfl rfl ?_
  refine s_aload (pc' := 44) X_36.here hx (hb hby d1_42) rfl rfl rfl ?_
  obtain ⟨T_37, h_37, X_37, e_37, W_37, st_37⟩ := putF X_36 hx hZ hown (host := "") (Or.inl (hw _ (List.mem_of_getElem? (i := 34) rfl))) Via.refl e_36 F_payload_a E_a (Or.inr ⟨(hw _ (List.mem_of_getElem? (i := 35) rfl)), rfl, hnm⟩) (hw _ (List.mem_of_getElem? (i := 2) rfl)) (ty := (.array .byte)) (by decide) rfl rfl (g := (mkF m 44 #[.val (.ref a), .val (.int p1), .val (.int p2), .val (.int p3), .val (.int p4), .val (.int p5), .val (.ref b_30)] [(.ref b_30), (.ref a)])) rfl rfl (hb hby d1_44)
  replace E_a := E_a.wr W_37
  replace F_flags_a := F_flags_a.other W_37 (Or.inr (slot_ne (Or.inr (hw _ (List.mem_of_getElem? (i := 25) rfl))) (Or.inr (hw _ (List.mem_of_getElem? (i := 35) rfl))) (by decide) (t := .int) (t' := (.array .byte)) (by decide) (by decide)))
  replace F_tsn_a := F_tsn_a.other W_37 (Or.inr (slot_ne (Or.inr (hw _ (List.mem_of_getElem? (i := 27) rfl))) (Or.inr (hw _ (List.mem_of_getElem? (i := 35) rfl))) (by decide) (t := .int) (t' := (.array .byte)) (by decide) (by decide)))
  replace F_stream_a := F_stream_a.other W_37 (Or.inr (slot_ne (Or.inr (hw _ (List.mem_of_getElem? (i := 29) rfl))) (Or.inr (hw _ (List.mem_of_getElem? (i := 35) rfl))) (by decide) (t := .int) (t' := (.array .byte)) (by decide) (by decide)))
  replace F_streamSequence_a := F_streamSequence_a.other W_37 (Or.inr (slot_ne (Or.inr (hw _ (List.mem_of_getElem? (i := 31) rfl))) (Or.inr (hw _ (List.mem_of_getElem? (i := 35) rfl))) (by decide) (t := .int) (t' := (.array .byte)) (by decide) (by decide)))
  replace F_payloadProtocol_a := F_payloadProtocol_a.other W_37 (Or.inr (slot_ne (Or.inr (hw _ (List.mem_of_getElem? (i := 33) rfl))) (Or.inr (hw _ (List.mem_of_getElem? (i := 35) rfl))) (by decide) (t := .int) (t' := (.array .byte)) (by decide) (by decide)))
  replace E_b := E_b.wr W_37
  replace V_b := V_b.other W_37 ne_b_a
  replace V_b_30 := V_b_30.other W_37 (Ne.symm ne_a_b_30)
  replace E_b_30 := E_b_30.wr W_37
  replace lt_a := Nat.lt_of_lt_of_le lt_a (Keep.of_wr W_37).1
  replace lt_b := Nat.lt_of_lt_of_le lt_b (Keep.of_wr W_37).1
  replace lt_b_30 := Nat.lt_of_lt_of_le lt_b_30 (Keep.of_wr W_37).1
  replace Zs := Nat.le_trans Zs (Keep.of_wr W_37).1
  replace Kp := Kp.wr W_37 (Or.inl (by simp))
  replace F_payload_a := F_payload_a.same W_37
  replace Nf := Fr.snoc X_37 Nf g_a
  refine Win.go st_37 ?_
  clear st_37 W_37 X_36 e_36
  show Win p.tables e below _ (T_37.setTop (mkF m 47 #[.val (.ref a), .val (.int p1), .val (.int p2), .val (.int p3), .val (.int p4), .val (.int p5), .val (.ref b_30)] []))
  refine winV X_37 hx hlk e_37 Bd.returns (hb hby d1_47) (by decide) (by decide) ?_
  exact ⟨Nf, Kp, F_flags_a, rfl⟩
theorem d4_0 : decode prog_93_method_3_code 0 = .ok (.aload_n 0, 1) := by decide +kernel
theorem d4_1 : decode prog_93_method_3_code 1 = .ok (.getfield 17, 3) := by decide +kernel
theorem d4_4 : decode prog_93_method_3_code 4 = .ok (.iconst 2, 1) := by decide +kernel
theorem d4_5 : decode prog_93_method_3_code 5 = .ok (.iand, 1) := by decide +kernel
theorem d4_6 : decode prog_93_method_3_code 6 = .ok (.ifCond .eq 7, 3) := by decide +kernel
theorem d4_9 : decode prog_93_method_3_code 9 = .ok (.iconst 1, 1) := by decide +kernel
theorem d4_10 : decode prog_93_method_3_code 10 = .ok (.goto 4, 3) := by decide +kernel
theorem d4_13 : decode prog_93_method_3_code 13 = .ok (.iconst 0, 1) := by decide +kernel
theorem d4_14 : decode prog_93_method_3_code 14 = .ok (.ireturn, 1) := by decide +kernel
theorem ef_4 (m : MethodId) (a : Addr) : entryFrame m #[(.ref a)] 1 = mkF m 0 #[.val (.ref a)] [] := by first | (simp [entryFrame, mkF, argsToLocals, Value.category]; done) | rfl
def Q4 (Z : State) (a : Addr) (u1 : Int32) (h0 : Heap) (n0 : Nat) (v : Option Value) (h : Heap) (L : List Loc) : Prop := Fr n0 L ∧ h = h0 ∧ (∃ z : Int32, v = some (.int z) ∧ ((z.toInt = 1 ∧ (¬ (u1 &&& (2 : Int32)).toInt = 0)) ∨ (z.toInt = 0 ∧ ¬ (¬ (u1 &&& (2 : Int32)).toInt = 0))))
set_option maxRecDepth 65536 in
set_option maxHeartbeats 40000000 in
theorem rm4 (l : Launch) (Z : State) (a0 : Array Value) (hw : ∀ d ∈ tables_1, d.before a0 Z = true) (ws : List Jvm.Cond) (a : Addr) (u1 : Int32) (h0 : Heap) (n0 : Nat) (Zs : n0 ≤ h0.size) (F_flags_a : Fld Z h0 a "com/example/pointcode/pointcode/sctp/DataChunk" "flags" "I" (.int u1)) :
    MetFree l (⟨"com/example/pointcode/pointcode/sctp/DataChunk", "isBeginning", "()Z"⟩ : MethodName) (head1 (Jvm.Cond.code (⟨"com/example/pointcode/pointcode/sctp/DataChunk", "isBeginning", "()Z"⟩ : MethodName) prog_93_method_3_code 1 (some .boolean) :: ws) ({ frames := 0, cells := 0, slots := 0, locals := 0 } : Room)) (fun as' U => as' = #[(.ref a)] ∧ Z.Warmed39 U.vm ∧ U.heap = h0) (fun _ _ _ _ _ => True) (fun _ U o U' => ∃ v L, o = .returned v ∧ Q4 Z a u1 h0 n0 v U'.heap L ∧ FrameEnd U o U' L ({ frames := 0, cells := 0, slots := 0, locals := 0 } : Room).cells ({ frames := 0, cells := 0, slots := 0, locals := 0 } : Room).slots) := by
  refine MetFree.of_bodySF (plainFor_of_name pn_1) hisR ?_
  intro p e s m args below meth c s₁ Bd hml0 hP hK
  obtain ⟨rfl, hZ, hh⟩ := hP
  have hx := Bd.exec
  have hby := Bd.bytes
  have hml : c.maxLocals = 1 := hml0
  have hown : s.vm.findClass "com/example/pointcode/pointcode/sctp/DataChunk" = some m.cls := findClass_of_methodNamed Bd.named
  have hnm := (name_of_methodNamed Bd.named Bd.method).1
  have hlk : meth.locks = false := Bd.notSynchronized
  have X0 : Stand p l e ({ frames := 0, cells := 0, slots := 0, locals := 0 } : Room) s m #[(.ref a)] below meth c s₁ [] 0 0 := Stand.of_body Bd
  have e0 : s₁.heap = h0 := by rw [← hh, Bd.state]; rfl
  have Nf := Fr.nil n0
  refine (?_ : Win p.tables e below (PostQ s (Q4 Z a u1 h0 n0) ({ frames := 0, cells := 0, slots := 0, locals := 0 } : Room).cells ({ frames := 0, cells := 0, slots := 0, locals := 0 } : Room).slots) (s₁.setTop (entryFrame m #[(.ref a)] 1)))
  rw [ef_4]
  have lt_a : a < h0.size := F_flags_a.lt
  show Win p.tables e below _ (s₁.setTop (mkF m 0 #[.val (.ref a)] []))
  refine s_aloadN (pc' := 1) X0.here hx (hb hby d4_0) rfl rfl rfl ?_
  obtain ⟨T_38, X_38, e_38, st_38⟩ := getF X0 hx hZ hown (host := "") (Or.inl (hw _ (List.mem_of_getElem? (i := 24) rfl))) Via.refl e0 F_flags_a (g := (mkF m 1 #[.val (.ref a)] [(.ref a)])) rfl rfl (hb hby d4_1)
  refine Win.go st_38 ?_
  clear st_38 X0 e0
  show Win p.tables e below _ (T_38.setTop (mkF m 4 #[.val (.ref a)] [(.int u1)]))
  refine s_iconst (pc' := 5) (z := (2 : Int32)) X_38.here hx (hb hby d4_4) rfl rfl ?_
  refine s_iand (pc' := 6) X_38.here hx (hb hby d4_5) rfl ?_
  by_cases hc6 : ((u1 &&& (2 : Int32))).toInt = (0 : Int)
  · skip
    refine s_ifYes (pc' := 13) X_38.here hx (hb hby d4_6) ((if0 _ _).trans (teqI (x := (u1 &&& (2 : Int32))) (y := (0 : Int32)) hc6).1) (by decide) (by decide) ?_
    refine s_iconst (pc' := 14) (z := (0 : Int32)) X_38.here hx (hb hby d4_13) rfl rfl ?_
    refine winN X_38 hx hlk e_38 (t := .boolean) Bd.returns (by simp) (hb hby d4_14) (by decide) (by decide) (z' := (0 : Int32)) rfl ?_
    refine ⟨Nf, rfl, _, rfl, Or.inr ⟨rfl, ?_⟩⟩
    omega
  · skip
    refine s_ifNo (pc' := 9) X_38.here hx (hb hby d4_6) rfl ((if0 _ _).trans (feqI (x := (u1 &&& (2 : Int32))) (y := (0 : Int32)) hc6).1) ?_
    refine s_iconst (pc' := 10) (z := (1 : Int32)) X_38.here hx (hb hby d4_9) rfl rfl ?_
    refine s_goto (pc' := 14) X_38.here hx (hb hby d4_10) (by decide) (by decide) ?_
    refine winN X_38 hx hlk e_38 (t := .boolean) Bd.returns (by simp) (hb hby d4_14) (by decide) (by decide) (z' := (1 : Int32)) rfl ?_
    refine ⟨Nf, rfl, _, rfl, Or.inl ⟨rfl, ?_⟩⟩
    omega
theorem pn_0 : plainName "com/example/pointcode/pointcode/sctp/DataChunkIsBeginningPinLaw" = true := by first | (simp [plainName, overriddenIn]; done) | decide +kernel
theorem pd_1 : parseMethodDescriptor "(IIIII[B)V" = some ⟨[.int, .int, .int, .int, .int, (.array .byte)], none⟩ := by decide +kernel
theorem pd_2 : parseMethodDescriptor "()Z" = some ⟨[], some .boolean⟩ := by decide +kernel
theorem ef_0 (m : MethodId) (p0 : Int32) (p1 : Int32) (p2 : Int32) (p3 : Int32) (p4 : Int32) (p5 : Int32) : entryFrame m #[(.int p0), (.int p1), (.int p2), (.int p3), (.int p4), (.int p5)] maxLocals = mkF m 0 #[.val (.int p0), .val (.int p1), .val (.int p2), .val (.int p3), .val (.int p4), .val (.int p5), .unset, .unset, .unset, .unset, .unset] [] := by first | (simp [entryFrame, mkF, argsToLocals, Value.category, maxLocals]; done) | rfl
def Q0 (Z : State) (p0 : Int32) (p1 : Int32) (p2 : Int32) (p3 : Int32) (p4 : Int32) (p5 : Int32) (h0 : Heap) (n0 : Nat) (v : Option Value) (h : Heap) (L : List Loc) : Prop := Fr n0 L ∧ v = some (.int 1)
set_option maxRecDepth 65536 in
set_option maxHeartbeats 40000000 in
theorem rm0 (l : Launch) (Z : State) (a0 : Array Value) (hw : ∀ d ∈ tables_1, d.before a0 Z = true) (ws : List Jvm.Cond) (p0 : Int32) (p1 : Int32) (p2 : Int32) (p3 : Int32) (p4 : Int32) (p5 : Int32) (h0 : Heap) (n0 : Nat) (Zs : n0 ≤ h0.size) :
    MetFree l x (head1 (Jvm.Cond.code x code maxLocals ret :: ws) room_1) (fun as' U => as' = #[(.int p0), (.int p1), (.int p2), (.int p3), (.int p4), (.int p5)] ∧ Z.Warmed39 U.vm ∧ U.heap = h0) (fun _ _ _ _ _ => True) (fun _ U o U' => ∃ v L, o = .returned v ∧ Q0 Z p0 p1 p2 p3 p4 p5 h0 n0 v U'.heap L ∧ FrameEnd U o U' L room_1.cells room_1.slots) := by
  refine MetFree.of_bodySF (plainFor_of_name pn_0) hisR ?_
  intro p e s m args below meth c s₁ Bd hml0 hP hK
  obtain ⟨rfl, hZ, hh⟩ := hP
  have hx := Bd.exec
  have hby := Bd.bytes
  have hml : c.maxLocals = 11 := hml0
  have hown : s.vm.findClass "com/example/pointcode/pointcode/sctp/DataChunkIsBeginningPinLaw" = some m.cls := findClass_of_methodNamed Bd.named
  have hnm := (name_of_methodNamed Bd.named Bd.method).1
  have hlk : meth.locks = false := Bd.notSynchronized
  have X0 : Stand p l e room_1 s m #[(.int p0), (.int p1), (.int p2), (.int p3), (.int p4), (.int p5)] below meth c s₁ [] 0 0 := Stand.of_body Bd
  have e0 : s₁.heap = h0 := by rw [← hh, Bd.state]; rfl
  have Nf := Fr.nil n0
  refine (?_ : Win p.tables e below (PostQ s (Q0 Z p0 p1 p2 p3 p4 p5 h0 n0) room_1.cells room_1.slots) (s₁.setTop (entryFrame m #[(.int p0), (.int p1), (.int p2), (.int p3), (.int p4), (.int p5)] maxLocals)))
  rw [ef_0]
  show Win p.tables e below _ (s₁.setTop (mkF m 0 #[.val (.int p0), .val (.int p1), .val (.int p2), .val (.int p3), .val (.int p4), .val (.int p5), .unset, .unset, .unset, .unset, .unset] []))
  refine s_iload (pc' := 2) X0.here hx (hb hby at_0) rfl rfl ?_
  refine s_iconst (pc' := 3) (z := (3 : Int32)) X0.here hx (hb hby at_2) rfl rfl ?_
  refine s_iand (pc' := 4) X0.here hx (hb hby at_3) rfl ?_
  generalize hln : (p5 &&& (3 : Int32)) = ln
  show Win p.tables e below _ (s₁.setTop (mkF m 4 #[.val (.int p0), .val (.int p1), .val (.int p2), .val (.int p3), .val (.int p4), .val (.int p5), .unset, .unset, .unset, .unset, .unset] [(.int ln)]))
  have bln : 0 ≤ ln.toInt ∧ ln.toInt ≤ 3 := hln ▸ c_and p5 3 (by decide)
  clear hln
  have o1 := own_two p0
  have o2 := own_on p0
  have o3 := own_off p0
  have o4 : (p0 &&& 2).toInt = 0 ∧ ((XT.ushr p0 (1 : Int32)) &&& 1).toInt = 0 ∨ (p0 &&& 2).toInt = 2 ∧ ((XT.ushr p0 (1 : Int32)) &&& 1).toInt = 1 := by rcases o1 with ⟨q1, q2⟩ | ⟨q1, q2⟩ <;> rw [q1, q2] <;> decide
  rcases (own_four bln.1 bln.2 : ln = (0 : Int32) ∨ ln = (1 : Int32) ∨ ln = (2 : Int32) ∨ ln = (3 : Int32)) with rfl | rfl | rfl | rfl
  · skip
    show Win p.tables e below _ (s₁.setTop (mkF m 4 #[.val (.int p0), .val (.int p1), .val (.int p2), .val (.int p3), .val (.int p4), .val (.int p5), .unset, .unset, .unset, .unset, .unset] [(.int (0 : Int32))]))
    obtain ⟨T_39, h_39, k_39, X_39, e_39, Ex_39, A_39, EA_39, st_39⟩ := newPE X0 hx hZ (hw _ (List.mem_of_getElem? (i := 0) rfl)) e0 (g := (mkF m 4 #[.val (.int p0), .val (.int p1), .val (.int p2), .val (.int p3), .val (.int p4), .val (.int p5), .unset, .unset, .unset, .unset, .unset] [(.int (0 : Int32))])) rfl (hb hby at_4) rfl (by decide) (cap := 0) (by decide) (by decide) (by decide) (by decide) (ad := "[B") (by decide)
    obtain ⟨b_39, g_39⟩ : ∃ z, z = h0.size := ⟨_, rfl⟩
    have g_b_39 : n0 ≤ b_39 := Nat.le_trans Zs (Nat.le_of_eq g_39.symm)
    rw [← g_39] at A_39 EA_39 st_39
    replace Zs := Nat.le_trans Zs Ex_39.1
    have V_b_39 : Arv Z h_39 b_39 k_39 .byte (0 : Int32) [] (.int (0 : Int32)) := (Arv.new A_39 (by decide)).pad (pad_rep [] (.int (0 : Int32)) 0)
    have lt_b_39 := V_b_39.lt
    have E_b_39 := EA_39
    refine Win.go st_39 ?_
    clear st_39 Ex_39 A_39 EA_39 g_39 X0 e0
    show Win p.tables e below _ (T_39.setTop (mkF m 6 #[.val (.int p0), .val (.int p1), .val (.int p2), .val (.int p3), .val (.int p4), .val (.int p5), .unset, .unset, .unset, .unset, .unset] [(.ref b_39)]))
    refine s_astore (pc' := 8) (l' := #[.val (.int p0), .val (.int p1), .val (.int p2), .val (.int p3), .val (.int p4), .val (.int p5), .val (.ref b_39), .unset, .unset, .unset, .unset]) X_39.here hx (hb hby at_6) rfl rfl rfl ?_
    obtain ⟨T_40, h_40, X_40, e_40, Ex_40, A_40, D_40, -, st_40⟩ := newO X_39 hx hZ hown (hw _ (List.mem_of_getElem? (i := 1) rfl)) (hw _ (List.mem_of_getElem? (i := 2) rfl)) (hw _ (List.mem_of_getElem? (i := 3) rfl)) e_39 (g := (mkF m 8 #[.val (.int p0), .val (.int p1), .val (.int p2), .val (.int p3), .val (.int p4), .val (.int p5), .val (.ref b_39), .unset, .unset, .unset, .unset] [])) rfl (hb hby at_8) (by decide) (by decide)
    obtain ⟨b_40, g_40⟩ : ∃ z, z = h_39.size := ⟨_, rfl⟩
    have ne_b_39_b_40 : b_39 ≠ b_40 := Nat.ne_of_lt (Nat.lt_of_lt_of_le lt_b_39 (Nat.le_of_eq g_40.symm))
    have g_b_40 : n0 ≤ b_40 := Nat.le_trans Zs (Nat.le_of_eq g_40.symm)
    rw [← g_40] at A_40 D_40 st_40
    replace V_b_39 := V_b_39.ext Ex_40
    replace E_b_39 := E_b_39.ext Ex_40
    replace lt_b_39 := Nat.lt_of_lt_of_le lt_b_39 Ex_40.1
    replace Zs := Nat.le_trans Zs Ex_40.1
    have E_b_40 := A_40
    have lt_b_40 := E_b_40.lt
    have F_flags_b_40 : Fld Z h_40 b_40 "com/example/pointcode/pointcode/sctp/DataChunk" "flags" "I" (.int (0 : Int32)) := D_40 (Or.inr (hw _ (List.mem_of_getElem? (i := 25) rfl))) (ty := .int) (by decide)
    have F_tsn_b_40 : Fld Z h_40 b_40 "com/example/pointcode/pointcode/sctp/DataChunk" "tsn" "I" (.int (0 : Int32)) := D_40 (Or.inr (hw _ (List.mem_of_getElem? (i := 27) rfl))) (ty := .int) (by decide)
    have F_stream_b_40 : Fld Z h_40 b_40 "com/example/pointcode/pointcode/sctp/DataChunk" "stream" "I" (.int (0 : Int32)) := D_40 (Or.inr (hw _ (List.mem_of_getElem? (i := 29) rfl))) (ty := .int) (by decide)
    have F_streamSequence_b_40 : Fld Z h_40 b_40 "com/example/pointcode/pointcode/sctp/DataChunk" "streamSequence" "I" (.int (0 : Int32)) := D_40 (Or.inr (hw _ (List.mem_of_getElem? (i := 31) rfl))) (ty := .int) (by decide)
    have F_payloadProtocol_b_40 : Fld Z h_40 b_40 "com/example/pointcode/pointcode/sctp/DataChunk" "payloadProtocol" "I" (.int (0 : Int32)) := D_40 (Or.inr (hw _ (List.mem_of_getElem? (i := 33) rfl))) (ty := .int) (by decide)
    have F_payload_b_40 : Fld Z h_40 b_40 "com/example/pointcode/pointcode/sctp/DataChunk" "payload" "[B" .null := D_40 (Or.inr (hw _ (List.mem_of_getElem? (i := 35) rfl))) (ty := (.array .byte)) (by decide)
    refine Win.go st_40 ?_
    clear st_40 Ex_40 A_40 D_40 g_40 X_39 e_39
    show Win p.tables e below _ (T_40.setTop (mkF m 11 #[.val (.int p0), .val (.int p1), .val (.int p2), .val (.int p3), .val (.int p4), .val (.int p5), .val (.ref b_39), .unset, .unset, .unset, .unset] [(.ref b_40)]))
    refine s_dup (pc' := 12) X_40.here hx (hb hby at_11) rfl rfl ?_
    refine s_iloadN (pc' := 13) X_40.here hx (hb hby at_12) rfl rfl ?_
    refine s_iloadN (pc' := 14) X_40.here hx (hb hby at_13) rfl rfl ?_
    refine s_iloadN (pc' := 15) X_40.here hx (hb hby at_14) rfl rfl ?_
    refine s_iloadN (pc' := 16) X_40.here hx (hb hby at_15) rfl rfl ?_
    refine s_iload (pc' := 18) X_40.here hx (hb hby at_16) rfl rfl ?_
    refine s_aload (pc' := 20) X_40.here hx (hb hby at_18) rfl rfl rfl ?_
    obtain ⟨_, _, ⟨T_41, L_41, k_41, n_41⟩, -, X_41, ⟨Lc_41, hQ_41, l_41, y_41, z_41⟩, st_41⟩ := X_40.specialBack hx (y := (⟨"com/example/pointcode/pointcode/sctp/DataChunk", "<init>", "(IIIII[B)V"⟩ : MethodName)) rfl hown (mvT hZ (hw _ (List.mem_of_getElem? (i := 4) rfl))) (mvT hZ (hw _ (List.mem_of_getElem? (i := 5) rfl))) (mvT hZ (hw _ (List.mem_of_getElem? (i := 6) rfl))) (by decide) (backOf (W := 1) (rm1_0 l Z a0 hw [] b_40 p0 p1 p2 p3 p4 b_39 k_39 h_40 n0 Zs E_b_40 F_flags_b_40 F_tsn_b_40 F_stream_b_40 F_streamSequence_b_40 F_payloadProtocol_b_40 F_payload_b_40 g_b_40 E_b_39 V_b_39 ne_b_39_b_40) hZ (hw _ (List.mem_of_getElem? (i := 6) rfl)) (hw _ (List.mem_of_getElem? (i := 3) rfl)) (by decide) (by decide)) (g := (mkF m 20 #[.val (.int p0), .val (.int p1), .val (.int p2), .val (.int p3), .val (.int p4), .val (.int p5), .val (.ref b_39), .unset, .unset, .unset, .unset] [(.ref b_39), (.int p4), (.int p3), (.int p2), (.int p1), (.int p0), (.ref b_40), (.ref b_40)])) rfl (by rw [hml]; rfl) (Steps.refl _) (a := b_40) (argsL := [(.int p0), (.int p1), (.int p2), (.int p3), (.int p4), (.ref b_39)]) (rest := [(.ref b_40)]) (lenOf pd_1 rfl) rfl (by show 2 * 0 + _ ≤ _; exact Nat.le_of_eq rfl) (hb hby at_20) (fun _ _ => ⟨rfl, e_40, (by decide : 2 + 1 ≤ _), (by decide : 6 + 0 ≤ _)⟩)
    dsimp only [Pt.U, Pt.locs, Pt.cells, Pt.slots] at X_41 l_41 y_41 z_41 st_41 hQ_41
    subst l_41 y_41 z_41
    obtain ⟨h_41, e_41⟩ : ∃ z, T_41.heap = z := ⟨_, rfl⟩
    rw [e_41] at hQ_41
    obtain ⟨Nq_41, K_41, n_41_F_flags_b_40, rfl⟩ := hQ_41
    replace Nf := Fr.app Nf Nq_41
    replace V_b_39 := V_b_39.keep K_41 (ninS ne_b_39_b_40 nin0)
    replace E_b_39 := E_b_39.keep K_41
    replace E_b_40 := E_b_40.keep K_41
    clear F_flags_b_40
    clear F_tsn_b_40
    clear F_stream_b_40
    clear F_streamSequence_b_40
    clear F_payloadProtocol_b_40
    clear F_payload_b_40
    replace lt_b_39 := Nat.lt_of_lt_of_le lt_b_39 K_41.1
    replace lt_b_40 := Nat.lt_of_lt_of_le lt_b_40 K_41.1
    replace Zs := Nat.le_trans Zs K_41.1
    have F_flags_b_40 := n_41_F_flags_b_40
    refine Win.come st_41 ?_
    clear st_41 Nq_41 X_40 e_40 K_41
    show Win p.tables e below _ (T_41.setTop (mkF m 23 #[.val (.int p0), .val (.int p1), .val (.int p2), .val (.int p3), .val (.int p4), .val (.int p5), .val (.ref b_39), .unset, .unset, .unset, .unset] [(.ref b_40)]))
    refine s_astore (pc' := 25) (l' := #[.val (.int p0), .val (.int p1), .val (.int p2), .val (.int p3), .val (.int p4), .val (.int p5), .val (.ref b_39), .val (.ref b_40), .unset, .unset, .unset]) X_41.here hx (hb hby at_23) rfl rfl rfl ?_
    obtain ⟨T_42, h_42, X_42, e_42, Ex_42, A_42, D_42, -, st_42⟩ := newO X_41 hx hZ hown (hw _ (List.mem_of_getElem? (i := 1) rfl)) (hw _ (List.mem_of_getElem? (i := 2) rfl)) (hw _ (List.mem_of_getElem? (i := 3) rfl)) e_41 (g := (mkF m 25 #[.val (.int p0), .val (.int p1), .val (.int p2), .val (.int p3), .val (.int p4), .val (.int p5), .val (.ref b_39), .val (.ref b_40), .unset, .unset, .unset] [])) rfl (hb hby at_25) (by decide) (by decide)
    obtain ⟨b_42, g_42⟩ : ∃ z, z = h_41.size := ⟨_, rfl⟩
    have ne_b_39_b_42 : b_39 ≠ b_42 := Nat.ne_of_lt (Nat.lt_of_lt_of_le lt_b_39 (Nat.le_of_eq g_42.symm))
    have ne_b_40_b_42 : b_40 ≠ b_42 := Nat.ne_of_lt (Nat.lt_of_lt_of_le lt_b_40 (Nat.le_of_eq g_42.symm))
    have g_b_42 : n0 ≤ b_42 := Nat.le_trans Zs (Nat.le_of_eq g_42.symm)
    rw [← g_42] at A_42 D_42 st_42
    replace V_b_39 := V_b_39.ext Ex_42
    replace E_b_39 := E_b_39.ext Ex_42
    replace E_b_40 := E_b_40.ext Ex_42
    replace F_flags_b_40 := F_flags_b_40.ext Ex_42
    replace lt_b_39 := Nat.lt_of_lt_of_le lt_b_39 Ex_42.1
    replace lt_b_40 := Nat.lt_of_lt_of_le lt_b_40 Ex_42.1
    replace Zs := Nat.le_trans Zs Ex_42.1
    have E_b_42 := A_42
    have lt_b_42 := E_b_42.lt
    have F_flags_b_42 : Fld Z h_42 b_42 "com/example/pointcode/pointcode/sctp/DataChunk" "flags" "I" (.int (0 : Int32)) := D_42 (Or.inr (hw _ (List.mem_of_getElem? (i := 25) rfl))) (ty := .int) (by decide)
    have F_tsn_b_42 : Fld Z h_42 b_42 "com/example/pointcode/pointcode/sctp/DataChunk" "tsn" "I" (.int (0 : Int32)) := D_42 (Or.inr (hw _ (List.mem_of_getElem? (i := 27) rfl))) (ty := .int) (by decide)
    have F_stream_b_42 : Fld Z h_42 b_42 "com/example/pointcode/pointcode/sctp/DataChunk" "stream" "I" (.int (0 : Int32)) := D_42 (Or.inr (hw _ (List.mem_of_getElem? (i := 29) rfl))) (ty := .int) (by decide)
    have F_streamSequence_b_42 : Fld Z h_42 b_42 "com/example/pointcode/pointcode/sctp/DataChunk" "streamSequence" "I" (.int (0 : Int32)) := D_42 (Or.inr (hw _ (List.mem_of_getElem? (i := 31) rfl))) (ty := .int) (by decide)
    have F_payloadProtocol_b_42 : Fld Z h_42 b_42 "com/example/pointcode/pointcode/sctp/DataChunk" "payloadProtocol" "I" (.int (0 : Int32)) := D_42 (Or.inr (hw _ (List.mem_of_getElem? (i := 33) rfl))) (ty := .int) (by decide)
    have F_payload_b_42 : Fld Z h_42 b_42 "com/example/pointcode/pointcode/sctp/DataChunk" "payload" "[B" .null := D_42 (Or.inr (hw _ (List.mem_of_getElem? (i := 35) rfl))) (ty := (.array .byte)) (by decide)
    refine Win.go st_42 ?_
    clear st_42 Ex_42 A_42 D_42 g_42 X_41 e_41
    show Win p.tables e below _ (T_42.setTop (mkF m 28 #[.val (.int p0), .val (.int p1), .val (.int p2), .val (.int p3), .val (.int p4), .val (.int p5), .val (.ref b_39), .val (.ref b_40), .unset, .unset, .unset] [(.ref b_42)]))
    refine s_dup (pc' := 29) X_42.here hx (hb hby at_28) rfl rfl ?_
    refine s_iloadN (pc' := 30) X_42.here hx (hb hby at_29) rfl rfl ?_
    refine s_iconst (pc' := 31) (z := (2 : Int32)) X_42.here hx (hb hby at_30) rfl rfl ?_
    refine s_ior (pc' := 32) X_42.here hx (hb hby at_31) rfl ?_
    refine s_iloadN (pc' := 33) X_42.here hx (hb hby at_32) rfl rfl ?_
    refine s_iloadN (pc' := 34) X_42.here hx (hb hby at_33) rfl rfl ?_
    refine s_iloadN (pc' := 35) X_42.here hx (hb hby at_34) rfl rfl ?_
    refine s_iload (pc' := 37) X_42.here hx (hb hby at_35) rfl rfl ?_
    refine s_aload (pc' := 39) X_42.here hx (hb hby at_37) rfl rfl rfl ?_
    obtain ⟨_, _, ⟨T_43, L_43, k_43, n_43⟩, -, X_43, ⟨Lc_43, hQ_43, l_43, y_43, z_43⟩, st_43⟩ := X_42.specialBack hx (y := (⟨"com/example/pointcode/pointcode/sctp/DataChunk", "<init>", "(IIIII[B)V"⟩ : MethodName)) rfl hown (mvT hZ (hw _ (List.mem_of_getElem? (i := 4) rfl))) (mvT hZ (hw _ (List.mem_of_getElem? (i := 5) rfl))) (mvT hZ (hw _ (List.mem_of_getElem? (i := 6) rfl))) (by decide) (backOf (W := 1) (rm1_0 l Z a0 hw [] b_42 (p0 ||| (2 : Int32)) p1 p2 p3 p4 b_39 k_39 h_42 n0 Zs E_b_42 F_flags_b_42 F_tsn_b_42 F_stream_b_42 F_streamSequence_b_42 F_payloadProtocol_b_42 F_payload_b_42 g_b_42 E_b_39 V_b_39 ne_b_39_b_42) hZ (hw _ (List.mem_of_getElem? (i := 6) rfl)) (hw _ (List.mem_of_getElem? (i := 3) rfl)) (by decide) (by decide)) (g := (mkF m 39 #[.val (.int p0), .val (.int p1), .val (.int p2), .val (.int p3), .val (.int p4), .val (.int p5), .val (.ref b_39), .val (.ref b_40), .unset, .unset, .unset] [(.ref b_39), (.int p4), (.int p3), (.int p2), (.int p1), (.int (p0 ||| (2 : Int32))), (.ref b_42), (.ref b_42)])) rfl (by rw [hml]; rfl) (Steps.refl _) (a := b_42) (argsL := [(.int (p0 ||| (2 : Int32))), (.int p1), (.int p2), (.int p3), (.int p4), (.ref b_39)]) (rest := [(.ref b_42)]) (lenOf pd_1 rfl) rfl (by show 2 * 0 + _ ≤ _; exact Nat.le_of_eq rfl) (hb hby at_39) (fun _ _ => ⟨rfl, e_42, (by decide : 4 + 1 ≤ _), (by decide : 12 + 0 ≤ _)⟩)
    dsimp only [Pt.U, Pt.locs, Pt.cells, Pt.slots] at X_43 l_43 y_43 z_43 st_43 hQ_43
    subst l_43 y_43 z_43
    obtain ⟨h_43, e_43⟩ : ∃ z, T_43.heap = z := ⟨_, rfl⟩
    rw [e_43] at hQ_43
    obtain ⟨Nq_43, K_43, n_43_F_flags_b_42, rfl⟩ := hQ_43
    replace Nf := Fr.app Nf Nq_43
    replace V_b_39 := V_b_39.keep K_43 (ninS ne_b_39_b_42 nin0)
    replace E_b_39 := E_b_39.keep K_43
    replace E_b_40 := E_b_40.keep K_43
    replace F_flags_b_40 := F_flags_b_40.keep K_43 (ninS ne_b_40_b_42 nin0)
    replace E_b_42 := E_b_42.keep K_43
    clear F_flags_b_42
    clear F_tsn_b_42
    clear F_stream_b_42
    clear F_streamSequence_b_42
    clear F_payloadProtocol_b_42
    clear F_payload_b_42
    replace lt_b_39 := Nat.lt_of_lt_of_le lt_b_39 K_43.1
    replace lt_b_40 := Nat.lt_of_lt_of_le lt_b_40 K_43.1
    replace lt_b_42 := Nat.lt_of_lt_of_le lt_b_42 K_43.1
    replace Zs := Nat.le_trans Zs K_43.1
    have F_flags_b_42 := n_43_F_flags_b_42
    refine Win.come st_43 ?_
    clear st_43 Nq_43 X_42 e_42 K_43
    show Win p.tables e below _ (T_43.setTop (mkF m 42 #[.val (.int p0), .val (.int p1), .val (.int p2), .val (.int p3), .val (.int p4), .val (.int p5), .val (.ref b_39), .val (.ref b_40), .unset, .unset, .unset] [(.ref b_42)]))
    refine s_astore (pc' := 44) (l' := #[.val (.int p0), .val (.int p1), .val (.int p2), .val (.int p3), .val (.int p4), .val (.int p5), .val (.ref b_39), .val (.ref b_40), .val (.ref b_42), .unset, .unset]) X_43.here hx (hb hby at_42) rfl rfl rfl ?_
    obtain ⟨T_44, h_44, X_44, e_44, Ex_44, A_44, D_44, -, st_44⟩ := newO X_43 hx hZ hown (hw _ (List.mem_of_getElem? (i := 1) rfl)) (hw _ (List.mem_of_getElem? (i := 2) rfl)) (hw _ (List.mem_of_getElem? (i := 3) rfl)) e_43 (g := (mkF m 44 #[.val (.int p0), .val (.int p1), .val (.int p2), .val (.int p3), .val (.int p4), .val (.int p5), .val (.ref b_39), .val (.ref b_40), .val (.ref b_42), .unset, .unset] [])) rfl (hb hby at_44) (by decide) (by decide)
    obtain ⟨b_44, g_44⟩ : ∃ z, z = h_43.size := ⟨_, rfl⟩
    have ne_b_39_b_44 : b_39 ≠ b_44 := Nat.ne_of_lt (Nat.lt_of_lt_of_le lt_b_39 (Nat.le_of_eq g_44.symm))
    have ne_b_40_b_44 : b_40 ≠ b_44 := Nat.ne_of_lt (Nat.lt_of_lt_of_le lt_b_40 (Nat.le_of_eq g_44.symm))
    have ne_b_42_b_44 : b_42 ≠ b_44 := Nat.ne_of_lt (Nat.lt_of_lt_of_le lt_b_42 (Nat.le_of_eq g_44.symm))
    have g_b_44 : n0 ≤ b_44 := Nat.le_trans Zs (Nat.le_of_eq g_44.symm)
    rw [← g_44] at A_44 D_44 st_44
    replace V_b_39 := V_b_39.ext Ex_44
    replace E_b_39 := E_b_39.ext Ex_44
    replace E_b_40 := E_b_40.ext Ex_44
    replace F_flags_b_40 := F_flags_b_40.ext Ex_44
    replace E_b_42 := E_b_42.ext Ex_44
    replace F_flags_b_42 := F_flags_b_42.ext Ex_44
    replace lt_b_39 := Nat.lt_of_lt_of_le lt_b_39 Ex_44.1
    replace lt_b_40 := Nat.lt_of_lt_of_le lt_b_40 Ex_44.1
    replace lt_b_42 := Nat.lt_of_lt_of_le lt_b_42 Ex_44.1
    replace Zs := Nat.le_trans Zs Ex_44.1
    have E_b_44 := A_44
    have lt_b_44 := E_b_44.lt
    have F_flags_b_44 : Fld Z h_44 b_44 "com/example/pointcode/pointcode/sctp/DataChunk" "flags" "I" (.int (0 : Int32)) := D_44 (Or.inr (hw _ (List.mem_of_getElem? (i := 25) rfl))) (ty := .int) (by decide)
    have F_tsn_b_44 : Fld Z h_44 b_44 "com/example/pointcode/pointcode/sctp/DataChunk" "tsn" "I" (.int (0 : Int32)) := D_44 (Or.inr (hw _ (List.mem_of_getElem? (i := 27) rfl))) (ty := .int) (by decide)
    have F_stream_b_44 : Fld Z h_44 b_44 "com/example/pointcode/pointcode/sctp/DataChunk" "stream" "I" (.int (0 : Int32)) := D_44 (Or.inr (hw _ (List.mem_of_getElem? (i := 29) rfl))) (ty := .int) (by decide)
    have F_streamSequence_b_44 : Fld Z h_44 b_44 "com/example/pointcode/pointcode/sctp/DataChunk" "streamSequence" "I" (.int (0 : Int32)) := D_44 (Or.inr (hw _ (List.mem_of_getElem? (i := 31) rfl))) (ty := .int) (by decide)
    have F_payloadProtocol_b_44 : Fld Z h_44 b_44 "com/example/pointcode/pointcode/sctp/DataChunk" "payloadProtocol" "I" (.int (0 : Int32)) := D_44 (Or.inr (hw _ (List.mem_of_getElem? (i := 33) rfl))) (ty := .int) (by decide)
    have F_payload_b_44 : Fld Z h_44 b_44 "com/example/pointcode/pointcode/sctp/DataChunk" "payload" "[B" .null := D_44 (Or.inr (hw _ (List.mem_of_getElem? (i := 35) rfl))) (ty := (.array .byte)) (by decide)
    refine Win.go st_44 ?_
    clear st_44 Ex_44 A_44 D_44 g_44 X_43 e_43
    show Win p.tables e below _ (T_44.setTop (mkF m 47 #[.val (.int p0), .val (.int p1), .val (.int p2), .val (.int p3), .val (.int p4), .val (.int p5), .val (.ref b_39), .val (.ref b_40), .val (.ref b_42), .unset, .unset] [(.ref b_44)]))
    refine s_dup (pc' := 48) X_44.here hx (hb hby at_47) rfl rfl ?_
    refine s_iloadN (pc' := 49) X_44.here hx (hb hby at_48) rfl rfl ?_
    refine s_bipush (pc' := 51) (z := (-3 : Int32)) X_44.here hx (hb hby at_49) rfl rfl ?_
    refine s_iand (pc' := 52) X_44.here hx (hb hby at_51) rfl ?_
    refine s_iloadN (pc' := 53) X_44.here hx (hb hby at_52) rfl rfl ?_
    refine s_iloadN (pc' := 54) X_44.here hx (hb hby at_53) rfl rfl ?_
    refine s_iloadN (pc' := 55) X_44.here hx (hb hby at_54) rfl rfl ?_
    refine s_iload (pc' := 57) X_44.here hx (hb hby at_55) rfl rfl ?_
    refine s_aload (pc' := 59) X_44.here hx (hb hby at_57) rfl rfl rfl ?_
    obtain ⟨_, _, ⟨T_45, L_45, k_45, n_45⟩, -, X_45, ⟨Lc_45, hQ_45, l_45, y_45, z_45⟩, st_45⟩ := X_44.specialBack hx (y := (⟨"com/example/pointcode/pointcode/sctp/DataChunk", "<init>", "(IIIII[B)V"⟩ : MethodName)) rfl hown (mvT hZ (hw _ (List.mem_of_getElem? (i := 4) rfl))) (mvT hZ (hw _ (List.mem_of_getElem? (i := 5) rfl))) (mvT hZ (hw _ (List.mem_of_getElem? (i := 6) rfl))) (by decide) (backOf (W := 1) (rm1_0 l Z a0 hw [] b_44 (p0 &&& (-3 : Int32)) p1 p2 p3 p4 b_39 k_39 h_44 n0 Zs E_b_44 F_flags_b_44 F_tsn_b_44 F_stream_b_44 F_streamSequence_b_44 F_payloadProtocol_b_44 F_payload_b_44 g_b_44 E_b_39 V_b_39 ne_b_39_b_44) hZ (hw _ (List.mem_of_getElem? (i := 6) rfl)) (hw _ (List.mem_of_getElem? (i := 3) rfl)) (by decide) (by decide)) (g := (mkF m 59 #[.val (.int p0), .val (.int p1), .val (.int p2), .val (.int p3), .val (.int p4), .val (.int p5), .val (.ref b_39), .val (.ref b_40), .val (.ref b_42), .unset, .unset] [(.ref b_39), (.int p4), (.int p3), (.int p2), (.int p1), (.int (p0 &&& (-3 : Int32))), (.ref b_44), (.ref b_44)])) rfl (by rw [hml]; rfl) (Steps.refl _) (a := b_44) (argsL := [(.int (p0 &&& (-3 : Int32))), (.int p1), (.int p2), (.int p3), (.int p4), (.ref b_39)]) (rest := [(.ref b_44)]) (lenOf pd_1 rfl) rfl (by show 2 * 0 + _ ≤ _; exact Nat.le_of_eq rfl) (hb hby at_59) (fun _ _ => ⟨rfl, e_44, (by decide : 6 + 1 ≤ _), (by decide : 18 + 0 ≤ _)⟩)
    dsimp only [Pt.U, Pt.locs, Pt.cells, Pt.slots] at X_45 l_45 y_45 z_45 st_45 hQ_45
    subst l_45 y_45 z_45
    obtain ⟨h_45, e_45⟩ : ∃ z, T_45.heap = z := ⟨_, rfl⟩
    rw [e_45] at hQ_45
    obtain ⟨Nq_45, K_45, n_45_F_flags_b_44, rfl⟩ := hQ_45
    replace Nf := Fr.app Nf Nq_45
    replace V_b_39 := V_b_39.keep K_45 (ninS ne_b_39_b_44 nin0)
    replace E_b_39 := E_b_39.keep K_45
    replace E_b_40 := E_b_40.keep K_45
    replace F_flags_b_40 := F_flags_b_40.keep K_45 (ninS ne_b_40_b_44 nin0)
    replace E_b_42 := E_b_42.keep K_45
    replace F_flags_b_42 := F_flags_b_42.keep K_45 (ninS ne_b_42_b_44 nin0)
    replace E_b_44 := E_b_44.keep K_45
    clear F_flags_b_44
    clear F_tsn_b_44
    clear F_stream_b_44
    clear F_streamSequence_b_44
    clear F_payloadProtocol_b_44
    clear F_payload_b_44
    replace lt_b_39 := Nat.lt_of_lt_of_le lt_b_39 K_45.1
    replace lt_b_40 := Nat.lt_of_lt_of_le lt_b_40 K_45.1
    replace lt_b_42 := Nat.lt_of_lt_of_le lt_b_42 K_45.1
    replace lt_b_44 := Nat.lt_of_lt_of_le lt_b_44 K_45.1
    replace Zs := Nat.le_trans Zs K_45.1
    have F_flags_b_44 := n_45_F_flags_b_44
    refine Win.come st_45 ?_
    clear st_45 Nq_45 X_44 e_44 K_45
    show Win p.tables e below _ (T_45.setTop (mkF m 62 #[.val (.int p0), .val (.int p1), .val (.int p2), .val (.int p3), .val (.int p4), .val (.int p5), .val (.ref b_39), .val (.ref b_40), .val (.ref b_42), .unset, .unset] [(.ref b_44)]))
    refine s_astore (pc' := 64) (l' := #[.val (.int p0), .val (.int p1), .val (.int p2), .val (.int p3), .val (.int p4), .val (.int p5), .val (.ref b_39), .val (.ref b_40), .val (.ref b_42), .val (.ref b_44), .unset]) X_45.here hx (hb hby at_62) rfl rfl rfl ?_
    refine s_iloadN (pc' := 65) X_45.here hx (hb hby at_64) rfl rfl ?_
    refine s_iconst (pc' := 66) (z := (1 : Int32)) X_45.here hx (hb hby at_65) rfl rfl ?_
    refine Win.go (fun _ k => XT.iushr X_45.here hx rfl (hb hby at_66) rfl k) ?_
    show Win p.tables e below _ (T_45.setTop (mkF m 67 #[.val (.int p0), .val (.int p1), .val (.int p2), .val (.int p3), .val (.int p4), .val (.int p5), .val (.ref b_39), .val (.ref b_40), .val (.ref b_42), .val (.ref b_44), .unset] [(.int (XT.ushr p0 (1 : Int32)))]))
    refine s_iconst (pc' := 68) (z := (1 : Int32)) X_45.here hx (hb hby at_67) rfl rfl ?_
    refine s_iand (pc' := 69) X_45.here hx (hb hby at_68) rfl ?_
    refine s_iconst (pc' := 70) (z := (1 : Int32)) X_45.here hx (hb hby at_69) rfl rfl ?_
    by_cases hc70 : (((XT.ushr p0 (1 : Int32)) &&& (1 : Int32))).toInt = (1 : Int)
    · skip
      refine s_icmpNo (pc' := 73) X_45.here hx (hb hby at_70) rfl (teqI (x := ((XT.ushr p0 (1 : Int32)) &&& (1 : Int32))) (y := (1 : Int32)) hc70).2 ?_
      refine s_iconst (pc' := 74) (z := (1 : Int32)) X_45.here hx (hb hby at_73) rfl rfl ?_
      refine s_goto (pc' := 78) X_45.here hx (hb hby at_74) (by decide) (by decide) ?_
      refine s_istore (pc' := 80) (l' := #[.val (.int p0), .val (.int p1), .val (.int p2), .val (.int p3), .val (.int p4), .val (.int p5), .val (.ref b_39), .val (.ref b_40), .val (.ref b_42), .val (.ref b_44), .val (.int (1 : Int32))]) X_45.here hx (hb hby at_78) rfl rfl ?_
      refine s_aload (pc' := 82) X_45.here hx (hb hby at_80) rfl rfl rfl ?_
      obtain ⟨cq_46, kq_46, q_46a, q_46b, q_46c⟩ := isOf hZ e_45 E_b_40
      obtain ⟨_, _, ⟨T_46, L_46, k_46, n_46⟩, -, X_46, ⟨Lc_46, hQ_46, l_46, y_46, z_46⟩, st_46⟩ := X_45.virtualBack hx (y := (⟨"com/example/pointcode/pointcode/sctp/DataChunk", "isBeginning", "()Z"⟩ : MethodName)) (z := (⟨"com/example/pointcode/pointcode/sctp/DataChunk", "isBeginning", "()Z"⟩ : MethodName)) hown (mvT hZ (hw _ (List.mem_of_getElem? (i := 36) rfl))) (mvT hZ (hw _ (List.mem_of_getElem? (i := 37) rfl))) (notFace_of_selects (args := #[]) (mvT hZ (hw _ (List.mem_of_getElem? (i := 39) rfl)))) (mvT hZ (hw _ (List.mem_of_getElem? (i := 39) rfl))) (mvT hZ (hw _ (List.mem_of_getElem? (i := 38) rfl))) (by decide) (backOf (W := 0) (rm4 l Z a0 hw [] b_40 p0 h_45 n0 Zs F_flags_b_40) hZ (hw _ (List.mem_of_getElem? (i := 40) rfl)) (hw _ (List.mem_of_getElem? (i := 3) rfl)) (by decide) (by decide)) q_46a q_46c (g := (mkF m 82 #[.val (.int p0), .val (.int p1), .val (.int p2), .val (.int p3), .val (.int p4), .val (.int p5), .val (.ref b_39), .val (.ref b_40), .val (.ref b_42), .val (.ref b_44), .val (.int (1 : Int32))] [(.ref b_40)])) rfl (by rw [hml]; rfl) (Steps.refl _) (argsL := []) (rest := []) (lenOf pd_2 rfl) rfl (by show 2 * 0 + _ ≤ _; exact Nat.le_of_eq rfl) (hb hby at_82) (fun _ _ => ⟨rfl, e_45, (by decide : 7 + 0 ≤ _), (by decide : 18 + 0 ≤ _)⟩)
      dsimp only [Pt.U, Pt.locs, Pt.cells, Pt.slots] at X_46 l_46 y_46 z_46 st_46 hQ_46
      subst l_46 y_46 z_46
      obtain ⟨Nq_46, e_46, r1, rfl, hr1⟩ := hQ_46
      replace Nf := Fr.app Nf Nq_46
      refine Win.come st_46 ?_
      clear st_46 Nq_46 X_45 e_45
      show Win p.tables e below _ (T_46.setTop (mkF m 85 #[.val (.int p0), .val (.int p1), .val (.int p2), .val (.int p3), .val (.int p4), .val (.int p5), .val (.ref b_39), .val (.ref b_40), .val (.ref b_42), .val (.ref b_44), .val (.int (1 : Int32))] [(.int r1)]))
      refine s_iload (pc' := 87) X_46.here hx (hb hby at_85) rfl rfl ?_
      by_cases hc87 : (r1).toInt = (1 : Int)
      · skip
        refine s_icmpNo (pc' := 90) X_46.here hx (hb hby at_87) rfl (teqI (x := r1) (y := (1 : Int32)) hc87).2 ?_
        refine s_aload (pc' := 92) X_46.here hx (hb hby at_90) rfl rfl rfl ?_
        obtain ⟨cq_47, kq_47, q_47a, q_47b, q_47c⟩ := isOf hZ e_46 E_b_42
        obtain ⟨_, _, ⟨T_47, L_47, k_47, n_47⟩, -, X_47, ⟨Lc_47, hQ_47, l_47, y_47, z_47⟩, st_47⟩ := X_46.virtualBack hx (y := (⟨"com/example/pointcode/pointcode/sctp/DataChunk", "isBeginning", "()Z"⟩ : MethodName)) (z := (⟨"com/example/pointcode/pointcode/sctp/DataChunk", "isBeginning", "()Z"⟩ : MethodName)) hown (mvT hZ (hw _ (List.mem_of_getElem? (i := 36) rfl))) (mvT hZ (hw _ (List.mem_of_getElem? (i := 37) rfl))) (notFace_of_selects (args := #[]) (mvT hZ (hw _ (List.mem_of_getElem? (i := 39) rfl)))) (mvT hZ (hw _ (List.mem_of_getElem? (i := 39) rfl))) (mvT hZ (hw _ (List.mem_of_getElem? (i := 38) rfl))) (by decide) (backOf (W := 0) (rm4 l Z a0 hw [] b_42 (p0 ||| (2 : Int32)) h_45 n0 Zs F_flags_b_42) hZ (hw _ (List.mem_of_getElem? (i := 40) rfl)) (hw _ (List.mem_of_getElem? (i := 3) rfl)) (by decide) (by decide)) q_47a q_47c (g := (mkF m 92 #[.val (.int p0), .val (.int p1), .val (.int p2), .val (.int p3), .val (.int p4), .val (.int p5), .val (.ref b_39), .val (.ref b_40), .val (.ref b_42), .val (.ref b_44), .val (.int (1 : Int32))] [(.ref b_42)])) rfl (by rw [hml]; rfl) (Steps.refl _) (argsL := []) (rest := []) (lenOf pd_2 rfl) rfl (by show 2 * 0 + _ ≤ _; exact Nat.le_of_eq rfl) (hb hby at_92) (fun _ _ => ⟨rfl, e_46, (by decide : 7 + 0 ≤ _), (by decide : 18 + 0 ≤ _)⟩)
        dsimp only [Pt.U, Pt.locs, Pt.cells, Pt.slots] at X_47 l_47 y_47 z_47 st_47 hQ_47
        subst l_47 y_47 z_47
        obtain ⟨Nq_47, e_47, r2, rfl, hr2⟩ := hQ_47
        replace Nf := Fr.app Nf Nq_47
        refine Win.come st_47 ?_
        clear st_47 Nq_47 X_46 e_46
        show Win p.tables e below _ (T_47.setTop (mkF m 95 #[.val (.int p0), .val (.int p1), .val (.int p2), .val (.int p3), .val (.int p4), .val (.int p5), .val (.ref b_39), .val (.ref b_40), .val (.ref b_42), .val (.ref b_44), .val (.int (1 : Int32))] [(.int r2)]))
        by_cases hc95 : (r2).toInt = (0 : Int)
        · skip
          refine s_ifYes (pc' := 110) X_47.here hx (hb hby at_95) ((if0 _ _).trans (teqI (x := r2) (y := (0 : Int32)) hc95).1) (by decide) (by decide) ?_
          refine s_iconst (pc' := 111) (z := (0 : Int32)) X_47.here hx (hb hby at_110) rfl rfl ?_
          exfalso
          omega
        · skip
          refine s_ifNo (pc' := 98) X_47.here hx (hb hby at_95) rfl ((if0 _ _).trans (feqI (x := r2) (y := (0 : Int32)) hc95).1) ?_
          refine s_aload (pc' := 100) X_47.here hx (hb hby at_98) rfl rfl rfl ?_
          obtain ⟨cq_48, kq_48, q_48a, q_48b, q_48c⟩ := isOf hZ e_47 E_b_44
          obtain ⟨_, _, ⟨T_48, L_48, k_48, n_48⟩, -, X_48, ⟨Lc_48, hQ_48, l_48, y_48, z_48⟩, st_48⟩ := X_47.virtualBack hx (y := (⟨"com/example/pointcode/pointcode/sctp/DataChunk", "isBeginning", "()Z"⟩ : MethodName)) (z := (⟨"com/example/pointcode/pointcode/sctp/DataChunk", "isBeginning", "()Z"⟩ : MethodName)) hown (mvT hZ (hw _ (List.mem_of_getElem? (i := 36) rfl))) (mvT hZ (hw _ (List.mem_of_getElem? (i := 37) rfl))) (notFace_of_selects (args := #[]) (mvT hZ (hw _ (List.mem_of_getElem? (i := 39) rfl)))) (mvT hZ (hw _ (List.mem_of_getElem? (i := 39) rfl))) (mvT hZ (hw _ (List.mem_of_getElem? (i := 38) rfl))) (by decide) (backOf (W := 0) (rm4 l Z a0 hw [] b_44 (p0 &&& (-3 : Int32)) h_45 n0 Zs F_flags_b_44) hZ (hw _ (List.mem_of_getElem? (i := 40) rfl)) (hw _ (List.mem_of_getElem? (i := 3) rfl)) (by decide) (by decide)) q_48a q_48c (g := (mkF m 100 #[.val (.int p0), .val (.int p1), .val (.int p2), .val (.int p3), .val (.int p4), .val (.int p5), .val (.ref b_39), .val (.ref b_40), .val (.ref b_42), .val (.ref b_44), .val (.int (1 : Int32))] [(.ref b_44)])) rfl (by rw [hml]; rfl) (Steps.refl _) (argsL := []) (rest := []) (lenOf pd_2 rfl) rfl (by show 2 * 0 + _ ≤ _; exact Nat.le_of_eq rfl) (hb hby at_100) (fun _ _ => ⟨rfl, e_47, (by decide : 7 + 0 ≤ _), (by decide : 18 + 0 ≤ _)⟩)
          dsimp only [Pt.U, Pt.locs, Pt.cells, Pt.slots] at X_48 l_48 y_48 z_48 st_48 hQ_48
          subst l_48 y_48 z_48
          obtain ⟨Nq_48, e_48, r3, rfl, hr3⟩ := hQ_48
          replace Nf := Fr.app Nf Nq_48
          refine Win.come st_48 ?_
          clear st_48 Nq_48 X_47 e_47
          show Win p.tables e below _ (T_48.setTop (mkF m 103 #[.val (.int p0), .val (.int p1), .val (.int p2), .val (.int p3), .val (.int p4), .val (.int p5), .val (.ref b_39), .val (.ref b_40), .val (.ref b_42), .val (.ref b_44), .val (.int (1 : Int32))] [(.int r3)]))
          by_cases hc103 : (r3).toInt = (0 : Int)
          · skip
            refine s_ifNo (pc' := 106) X_48.here hx (hb hby at_103) rfl ((if0 _ _).trans (teqI (x := r3) (y := (0 : Int32)) hc103).2) ?_
            refine s_iconst (pc' := 107) (z := (1 : Int32)) X_48.here hx (hb hby at_106) rfl rfl ?_
            refine s_goto (pc' := 111) X_48.here hx (hb hby at_107) (by decide) (by decide) ?_
            refine winN X_48 hx hlk e_48 (t := .boolean) Bd.returns (by simp) (hb hby at_111) (by decide) (by decide) (z' := 1) rfl ⟨Nf, rfl⟩
          · skip
            refine s_ifYes (pc' := 110) X_48.here hx (hb hby at_103) ((if0 _ _).trans (feqI (x := r3) (y := (0 : Int32)) hc103).2) (by decide) (by decide) ?_
            refine s_iconst (pc' := 111) (z := (0 : Int32)) X_48.here hx (hb hby at_110) rfl rfl ?_
            exfalso
            omega
      · skip
        refine s_icmpYes (pc' := 110) X_46.here hx (hb hby at_87) (feqI (x := r1) (y := (1 : Int32)) hc87).2 (by decide) (by decide) ?_
        refine s_iconst (pc' := 111) (z := (0 : Int32)) X_46.here hx (hb hby at_110) rfl rfl ?_
        exfalso
        omega
    · skip
      refine s_icmpYes (pc' := 77) X_45.here hx (hb hby at_70) (feqI (x := ((XT.ushr p0 (1 : Int32)) &&& (1 : Int32))) (y := (1 : Int32)) hc70).2 (by decide) (by decide) ?_
      refine s_iconst (pc' := 78) (z := (0 : Int32)) X_45.here hx (hb hby at_77) rfl rfl ?_
      refine s_istore (pc' := 80) (l' := #[.val (.int p0), .val (.int p1), .val (.int p2), .val (.int p3), .val (.int p4), .val (.int p5), .val (.ref b_39), .val (.ref b_40), .val (.ref b_42), .val (.ref b_44), .val (.int (0 : Int32))]) X_45.here hx (hb hby at_78) rfl rfl ?_
      refine s_aload (pc' := 82) X_45.here hx (hb hby at_80) rfl rfl rfl ?_
      obtain ⟨cq_49, kq_49, q_49a, q_49b, q_49c⟩ := isOf hZ e_45 E_b_40
      obtain ⟨_, _, ⟨T_49, L_49, k_49, n_49⟩, -, X_49, ⟨Lc_49, hQ_49, l_49, y_49, z_49⟩, st_49⟩ := X_45.virtualBack hx (y := (⟨"com/example/pointcode/pointcode/sctp/DataChunk", "isBeginning", "()Z"⟩ : MethodName)) (z := (⟨"com/example/pointcode/pointcode/sctp/DataChunk", "isBeginning", "()Z"⟩ : MethodName)) hown (mvT hZ (hw _ (List.mem_of_getElem? (i := 36) rfl))) (mvT hZ (hw _ (List.mem_of_getElem? (i := 37) rfl))) (notFace_of_selects (args := #[]) (mvT hZ (hw _ (List.mem_of_getElem? (i := 39) rfl)))) (mvT hZ (hw _ (List.mem_of_getElem? (i := 39) rfl))) (mvT hZ (hw _ (List.mem_of_getElem? (i := 38) rfl))) (by decide) (backOf (W := 0) (rm4 l Z a0 hw [] b_40 p0 h_45 n0 Zs F_flags_b_40) hZ (hw _ (List.mem_of_getElem? (i := 40) rfl)) (hw _ (List.mem_of_getElem? (i := 3) rfl)) (by decide) (by decide)) q_49a q_49c (g := (mkF m 82 #[.val (.int p0), .val (.int p1), .val (.int p2), .val (.int p3), .val (.int p4), .val (.int p5), .val (.ref b_39), .val (.ref b_40), .val (.ref b_42), .val (.ref b_44), .val (.int (0 : Int32))] [(.ref b_40)])) rfl (by rw [hml]; rfl) (Steps.refl _) (argsL := []) (rest := []) (lenOf pd_2 rfl) rfl (by show 2 * 0 + _ ≤ _; exact Nat.le_of_eq rfl) (hb hby at_82) (fun _ _ => ⟨rfl, e_45, (by decide : 7 + 0 ≤ _), (by decide : 18 + 0 ≤ _)⟩)
      dsimp only [Pt.U, Pt.locs, Pt.cells, Pt.slots] at X_49 l_49 y_49 z_49 st_49 hQ_49
      subst l_49 y_49 z_49
      obtain ⟨Nq_49, e_49, r1, rfl, hr1⟩ := hQ_49
      replace Nf := Fr.app Nf Nq_49
      refine Win.come st_49 ?_
      clear st_49 Nq_49 X_45 e_45
      show Win p.tables e below _ (T_49.setTop (mkF m 85 #[.val (.int p0), .val (.int p1), .val (.int p2), .val (.int p3), .val (.int p4), .val (.int p5), .val (.ref b_39), .val (.ref b_40), .val (.ref b_42), .val (.ref b_44), .val (.int (0 : Int32))] [(.int r1)]))
      refine s_iload (pc' := 87) X_49.here hx (hb hby at_85) rfl rfl ?_
      by_cases hc87 : (r1).toInt = (0 : Int)
      · skip
        refine s_icmpNo (pc' := 90) X_49.here hx (hb hby at_87) rfl (teqI (x := r1) (y := (0 : Int32)) hc87).2 ?_
        refine s_aload (pc' := 92) X_49.here hx (hb hby at_90) rfl rfl rfl ?_
        obtain ⟨cq_50, kq_50, q_50a, q_50b, q_50c⟩ := isOf hZ e_49 E_b_42
        obtain ⟨_, _, ⟨T_50, L_50, k_50, n_50⟩, -, X_50, ⟨Lc_50, hQ_50, l_50, y_50, z_50⟩, st_50⟩ := X_49.virtualBack hx (y := (⟨"com/example/pointcode/pointcode/sctp/DataChunk", "isBeginning", "()Z"⟩ : MethodName)) (z := (⟨"com/example/pointcode/pointcode/sctp/DataChunk", "isBeginning", "()Z"⟩ : MethodName)) hown (mvT hZ (hw _ (List.mem_of_getElem? (i := 36) rfl))) (mvT hZ (hw _ (List.mem_of_getElem? (i := 37) rfl))) (notFace_of_selects (args := #[]) (mvT hZ (hw _ (List.mem_of_getElem? (i := 39) rfl)))) (mvT hZ (hw _ (List.mem_of_getElem? (i := 39) rfl))) (mvT hZ (hw _ (List.mem_of_getElem? (i := 38) rfl))) (by decide) (backOf (W := 0) (rm4 l Z a0 hw [] b_42 (p0 ||| (2 : Int32)) h_45 n0 Zs F_flags_b_42) hZ (hw _ (List.mem_of_getElem? (i := 40) rfl)) (hw _ (List.mem_of_getElem? (i := 3) rfl)) (by decide) (by decide)) q_50a q_50c (g := (mkF m 92 #[.val (.int p0), .val (.int p1), .val (.int p2), .val (.int p3), .val (.int p4), .val (.int p5), .val (.ref b_39), .val (.ref b_40), .val (.ref b_42), .val (.ref b_44), .val (.int (0 : Int32))] [(.ref b_42)])) rfl (by rw [hml]; rfl) (Steps.refl _) (argsL := []) (rest := []) (lenOf pd_2 rfl) rfl (by show 2 * 0 + _ ≤ _; exact Nat.le_of_eq rfl) (hb hby at_92) (fun _ _ => ⟨rfl, e_49, (by decide : 7 + 0 ≤ _), (by decide : 18 + 0 ≤ _)⟩)
        dsimp only [Pt.U, Pt.locs, Pt.cells, Pt.slots] at X_50 l_50 y_50 z_50 st_50 hQ_50
        subst l_50 y_50 z_50
        obtain ⟨Nq_50, e_50, r2, rfl, hr2⟩ := hQ_50
        replace Nf := Fr.app Nf Nq_50
        refine Win.come st_50 ?_
        clear st_50 Nq_50 X_49 e_49
        show Win p.tables e below _ (T_50.setTop (mkF m 95 #[.val (.int p0), .val (.int p1), .val (.int p2), .val (.int p3), .val (.int p4), .val (.int p5), .val (.ref b_39), .val (.ref b_40), .val (.ref b_42), .val (.ref b_44), .val (.int (0 : Int32))] [(.int r2)]))
        by_cases hc95 : (r2).toInt = (0 : Int)
        · skip
          refine s_ifYes (pc' := 110) X_50.here hx (hb hby at_95) ((if0 _ _).trans (teqI (x := r2) (y := (0 : Int32)) hc95).1) (by decide) (by decide) ?_
          refine s_iconst (pc' := 111) (z := (0 : Int32)) X_50.here hx (hb hby at_110) rfl rfl ?_
          exfalso
          omega
        · skip
          refine s_ifNo (pc' := 98) X_50.here hx (hb hby at_95) rfl ((if0 _ _).trans (feqI (x := r2) (y := (0 : Int32)) hc95).1) ?_
          refine s_aload (pc' := 100) X_50.here hx (hb hby at_98) rfl rfl rfl ?_
          obtain ⟨cq_51, kq_51, q_51a, q_51b, q_51c⟩ := isOf hZ e_50 E_b_44
          obtain ⟨_, _, ⟨T_51, L_51, k_51, n_51⟩, -, X_51, ⟨Lc_51, hQ_51, l_51, y_51, z_51⟩, st_51⟩ := X_50.virtualBack hx (y := (⟨"com/example/pointcode/pointcode/sctp/DataChunk", "isBeginning", "()Z"⟩ : MethodName)) (z := (⟨"com/example/pointcode/pointcode/sctp/DataChunk", "isBeginning", "()Z"⟩ : MethodName)) hown (mvT hZ (hw _ (List.mem_of_getElem? (i := 36) rfl))) (mvT hZ (hw _ (List.mem_of_getElem? (i := 37) rfl))) (notFace_of_selects (args := #[]) (mvT hZ (hw _ (List.mem_of_getElem? (i := 39) rfl)))) (mvT hZ (hw _ (List.mem_of_getElem? (i := 39) rfl))) (mvT hZ (hw _ (List.mem_of_getElem? (i := 38) rfl))) (by decide) (backOf (W := 0) (rm4 l Z a0 hw [] b_44 (p0 &&& (-3 : Int32)) h_45 n0 Zs F_flags_b_44) hZ (hw _ (List.mem_of_getElem? (i := 40) rfl)) (hw _ (List.mem_of_getElem? (i := 3) rfl)) (by decide) (by decide)) q_51a q_51c (g := (mkF m 100 #[.val (.int p0), .val (.int p1), .val (.int p2), .val (.int p3), .val (.int p4), .val (.int p5), .val (.ref b_39), .val (.ref b_40), .val (.ref b_42), .val (.ref b_44), .val (.int (0 : Int32))] [(.ref b_44)])) rfl (by rw [hml]; rfl) (Steps.refl _) (argsL := []) (rest := []) (lenOf pd_2 rfl) rfl (by show 2 * 0 + _ ≤ _; exact Nat.le_of_eq rfl) (hb hby at_100) (fun _ _ => ⟨rfl, e_50, (by decide : 7 + 0 ≤ _), (by decide : 18 + 0 ≤ _)⟩)
          dsimp only [Pt.U, Pt.locs, Pt.cells, Pt.slots] at X_51 l_51 y_51 z_51 st_51 hQ_51
          subst l_51 y_51 z_51
          obtain ⟨Nq_51, e_51, r3, rfl, hr3⟩ := hQ_51
          replace Nf := Fr.app Nf Nq_51
          refine Win.come st_51 ?_
          clear st_51 Nq_51 X_50 e_50
          show Win p.tables e below _ (T_51.setTop (mkF m 103 #[.val (.int p0), .val (.int p1), .val (.int p2), .val (.int p3), .val (.int p4), .val (.int p5), .val (.ref b_39), .val (.ref b_40), .val (.ref b_42), .val (.ref b_44), .val (.int (0 : Int32))] [(.int r3)]))
          by_cases hc103 : (r3).toInt = (0 : Int)
          · skip
            refine s_ifNo (pc' := 106) X_51.here hx (hb hby at_103) rfl ((if0 _ _).trans (teqI (x := r3) (y := (0 : Int32)) hc103).2) ?_
            refine s_iconst (pc' := 107) (z := (1 : Int32)) X_51.here hx (hb hby at_106) rfl rfl ?_
            refine s_goto (pc' := 111) X_51.here hx (hb hby at_107) (by decide) (by decide) ?_
            refine winN X_51 hx hlk e_51 (t := .boolean) Bd.returns (by simp) (hb hby at_111) (by decide) (by decide) (z' := 1) rfl ⟨Nf, rfl⟩
          · skip
            refine s_ifYes (pc' := 110) X_51.here hx (hb hby at_103) ((if0 _ _).trans (feqI (x := r3) (y := (0 : Int32)) hc103).2) (by decide) (by decide) ?_
            refine s_iconst (pc' := 111) (z := (0 : Int32)) X_51.here hx (hb hby at_110) rfl rfl ?_
            exfalso
            omega
      · skip
        refine s_icmpYes (pc' := 110) X_49.here hx (hb hby at_87) (feqI (x := r1) (y := (0 : Int32)) hc87).2 (by decide) (by decide) ?_
        refine s_iconst (pc' := 111) (z := (0 : Int32)) X_49.here hx (hb hby at_110) rfl rfl ?_
        exfalso
        omega
  · skip
    show Win p.tables e below _ (s₁.setTop (mkF m 4 #[.val (.int p0), .val (.int p1), .val (.int p2), .val (.int p3), .val (.int p4), .val (.int p5), .unset, .unset, .unset, .unset, .unset] [(.int (1 : Int32))]))
    obtain ⟨T_52, h_52, k_52, X_52, e_52, Ex_52, A_52, EA_52, st_52⟩ := newPE X0 hx hZ (hw _ (List.mem_of_getElem? (i := 0) rfl)) e0 (g := (mkF m 4 #[.val (.int p0), .val (.int p1), .val (.int p2), .val (.int p3), .val (.int p4), .val (.int p5), .unset, .unset, .unset, .unset, .unset] [(.int (1 : Int32))])) rfl (hb hby at_4) rfl (by decide) (cap := 1) (by decide) (by decide) (by decide) (by decide) (ad := "[B") (by decide)
    obtain ⟨b_52, g_52⟩ : ∃ z, z = h0.size := ⟨_, rfl⟩
    have g_b_52 : n0 ≤ b_52 := Nat.le_trans Zs (Nat.le_of_eq g_52.symm)
    rw [← g_52] at A_52 EA_52 st_52
    replace Zs := Nat.le_trans Zs Ex_52.1
    have V_b_52 : Arv Z h_52 b_52 k_52 .byte (1 : Int32) [(.int (0 : Int32))] (.int (0 : Int32)) := (Arv.new A_52 (by decide)).pad (pad_rep [] (.int (0 : Int32)) 1)
    have lt_b_52 := V_b_52.lt
    have E_b_52 := EA_52
    refine Win.go st_52 ?_
    clear st_52 Ex_52 A_52 EA_52 g_52 X0 e0
    show Win p.tables e below _ (T_52.setTop (mkF m 6 #[.val (.int p0), .val (.int p1), .val (.int p2), .val (.int p3), .val (.int p4), .val (.int p5), .unset, .unset, .unset, .unset, .unset] [(.ref b_52)]))
    refine s_astore (pc' := 8) (l' := #[.val (.int p0), .val (.int p1), .val (.int p2), .val (.int p3), .val (.int p4), .val (.int p5), .val (.ref b_52), .unset, .unset, .unset, .unset]) X_52.here hx (hb hby at_6) rfl rfl rfl ?_
    obtain ⟨T_53, h_53, X_53, e_53, Ex_53, A_53, D_53, -, st_53⟩ := newO X_52 hx hZ hown (hw _ (List.mem_of_getElem? (i := 1) rfl)) (hw _ (List.mem_of_getElem? (i := 2) rfl)) (hw _ (List.mem_of_getElem? (i := 3) rfl)) e_52 (g := (mkF m 8 #[.val (.int p0), .val (.int p1), .val (.int p2), .val (.int p3), .val (.int p4), .val (.int p5), .val (.ref b_52), .unset, .unset, .unset, .unset] [])) rfl (hb hby at_8) (by decide) (by decide)
    obtain ⟨b_53, g_53⟩ : ∃ z, z = h_52.size := ⟨_, rfl⟩
    have ne_b_52_b_53 : b_52 ≠ b_53 := Nat.ne_of_lt (Nat.lt_of_lt_of_le lt_b_52 (Nat.le_of_eq g_53.symm))
    have g_b_53 : n0 ≤ b_53 := Nat.le_trans Zs (Nat.le_of_eq g_53.symm)
    rw [← g_53] at A_53 D_53 st_53
    replace V_b_52 := V_b_52.ext Ex_53
    replace E_b_52 := E_b_52.ext Ex_53
    replace lt_b_52 := Nat.lt_of_lt_of_le lt_b_52 Ex_53.1
    replace Zs := Nat.le_trans Zs Ex_53.1
    have E_b_53 := A_53
    have lt_b_53 := E_b_53.lt
    have F_flags_b_53 : Fld Z h_53 b_53 "com/example/pointcode/pointcode/sctp/DataChunk" "flags" "I" (.int (0 : Int32)) := D_53 (Or.inr (hw _ (List.mem_of_getElem? (i := 25) rfl))) (ty := .int) (by decide)
    have F_tsn_b_53 : Fld Z h_53 b_53 "com/example/pointcode/pointcode/sctp/DataChunk" "tsn" "I" (.int (0 : Int32)) := D_53 (Or.inr (hw _ (List.mem_of_getElem? (i := 27) rfl))) (ty := .int) (by decide)
    have F_stream_b_53 : Fld Z h_53 b_53 "com/example/pointcode/pointcode/sctp/DataChunk" "stream" "I" (.int (0 : Int32)) := D_53 (Or.inr (hw _ (List.mem_of_getElem? (i := 29) rfl))) (ty := .int) (by decide)
    have F_streamSequence_b_53 : Fld Z h_53 b_53 "com/example/pointcode/pointcode/sctp/DataChunk" "streamSequence" "I" (.int (0 : Int32)) := D_53 (Or.inr (hw _ (List.mem_of_getElem? (i := 31) rfl))) (ty := .int) (by decide)
    have F_payloadProtocol_b_53 : Fld Z h_53 b_53 "com/example/pointcode/pointcode/sctp/DataChunk" "payloadProtocol" "I" (.int (0 : Int32)) := D_53 (Or.inr (hw _ (List.mem_of_getElem? (i := 33) rfl))) (ty := .int) (by decide)
    have F_payload_b_53 : Fld Z h_53 b_53 "com/example/pointcode/pointcode/sctp/DataChunk" "payload" "[B" .null := D_53 (Or.inr (hw _ (List.mem_of_getElem? (i := 35) rfl))) (ty := (.array .byte)) (by decide)
    refine Win.go st_53 ?_
    clear st_53 Ex_53 A_53 D_53 g_53 X_52 e_52
    show Win p.tables e below _ (T_53.setTop (mkF m 11 #[.val (.int p0), .val (.int p1), .val (.int p2), .val (.int p3), .val (.int p4), .val (.int p5), .val (.ref b_52), .unset, .unset, .unset, .unset] [(.ref b_53)]))
    refine s_dup (pc' := 12) X_53.here hx (hb hby at_11) rfl rfl ?_
    refine s_iloadN (pc' := 13) X_53.here hx (hb hby at_12) rfl rfl ?_
    refine s_iloadN (pc' := 14) X_53.here hx (hb hby at_13) rfl rfl ?_
    refine s_iloadN (pc' := 15) X_53.here hx (hb hby at_14) rfl rfl ?_
    refine s_iloadN (pc' := 16) X_53.here hx (hb hby at_15) rfl rfl ?_
    refine s_iload (pc' := 18) X_53.here hx (hb hby at_16) rfl rfl ?_
    refine s_aload (pc' := 20) X_53.here hx (hb hby at_18) rfl rfl rfl ?_
    obtain ⟨_, _, ⟨T_54, L_54, k_54, n_54⟩, -, X_54, ⟨Lc_54, hQ_54, l_54, y_54, z_54⟩, st_54⟩ := X_53.specialBack hx (y := (⟨"com/example/pointcode/pointcode/sctp/DataChunk", "<init>", "(IIIII[B)V"⟩ : MethodName)) rfl hown (mvT hZ (hw _ (List.mem_of_getElem? (i := 4) rfl))) (mvT hZ (hw _ (List.mem_of_getElem? (i := 5) rfl))) (mvT hZ (hw _ (List.mem_of_getElem? (i := 6) rfl))) (by decide) (backOf (W := 1) (rm1_1 l Z a0 hw [] b_53 p0 p1 p2 p3 p4 b_52 k_52 h_53 n0 Zs E_b_53 F_flags_b_53 F_tsn_b_53 F_stream_b_53 F_streamSequence_b_53 F_payloadProtocol_b_53 F_payload_b_53 g_b_53 E_b_52 V_b_52 ne_b_52_b_53) hZ (hw _ (List.mem_of_getElem? (i := 6) rfl)) (hw _ (List.mem_of_getElem? (i := 3) rfl)) (by decide) (by decide)) (g := (mkF m 20 #[.val (.int p0), .val (.int p1), .val (.int p2), .val (.int p3), .val (.int p4), .val (.int p5), .val (.ref b_52), .unset, .unset, .unset, .unset] [(.ref b_52), (.int p4), (.int p3), (.int p2), (.int p1), (.int p0), (.ref b_53), (.ref b_53)])) rfl (by rw [hml]; rfl) (Steps.refl _) (a := b_53) (argsL := [(.int p0), (.int p1), (.int p2), (.int p3), (.int p4), (.ref b_52)]) (rest := [(.ref b_53)]) (lenOf pd_1 rfl) rfl (by show 2 * 0 + _ ≤ _; exact Nat.le_of_eq rfl) (hb hby at_20) (fun _ _ => ⟨rfl, e_53, (by decide : 2 + 1 ≤ _), (by decide : 7 + 1 ≤ _)⟩)
    dsimp only [Pt.U, Pt.locs, Pt.cells, Pt.slots] at X_54 l_54 y_54 z_54 st_54 hQ_54
    subst l_54 y_54 z_54
    obtain ⟨h_54, e_54⟩ : ∃ z, T_54.heap = z := ⟨_, rfl⟩
    rw [e_54] at hQ_54
    obtain ⟨Nq_54, K_54, n_54_F_flags_b_53, rfl⟩ := hQ_54
    replace Nf := Fr.app Nf Nq_54
    replace V_b_52 := V_b_52.keep K_54 (ninS ne_b_52_b_53 nin0)
    replace E_b_52 := E_b_52.keep K_54
    replace E_b_53 := E_b_53.keep K_54
    clear F_flags_b_53
    clear F_tsn_b_53
    clear F_stream_b_53
    clear F_streamSequence_b_53
    clear F_payloadProtocol_b_53
    clear F_payload_b_53
    replace lt_b_52 := Nat.lt_of_lt_of_le lt_b_52 K_54.1
    replace lt_b_53 := Nat.lt_of_lt_of_le lt_b_53 K_54.1
    replace Zs := Nat.le_trans Zs K_54.1
    have F_flags_b_53 := n_54_F_flags_b_53
    refine Win.come st_54 ?_
    clear st_54 Nq_54 X_53 e_53 K_54
    show Win p.tables e below _ (T_54.setTop (mkF m 23 #[.val (.int p0), .val (.int p1), .val (.int p2), .val (.int p3), .val (.int p4), .val (.int p5), .val (.ref b_52), .unset, .unset, .unset, .unset] [(.ref b_53)]))
    refine s_astore (pc' := 25) (l' := #[.val (.int p0), .val (.int p1), .val (.int p2), .val (.int p3), .val (.int p4), .val (.int p5), .val (.ref b_52), .val (.ref b_53), .unset, .unset, .unset]) X_54.here hx (hb hby at_23) rfl rfl rfl ?_
    obtain ⟨T_55, h_55, X_55, e_55, Ex_55, A_55, D_55, -, st_55⟩ := newO X_54 hx hZ hown (hw _ (List.mem_of_getElem? (i := 1) rfl)) (hw _ (List.mem_of_getElem? (i := 2) rfl)) (hw _ (List.mem_of_getElem? (i := 3) rfl)) e_54 (g := (mkF m 25 #[.val (.int p0), .val (.int p1), .val (.int p2), .val (.int p3), .val (.int p4), .val (.int p5), .val (.ref b_52), .val (.ref b_53), .unset, .unset, .unset] [])) rfl (hb hby at_25) (by decide) (by decide)
    obtain ⟨b_55, g_55⟩ : ∃ z, z = h_54.size := ⟨_, rfl⟩
    have ne_b_52_b_55 : b_52 ≠ b_55 := Nat.ne_of_lt (Nat.lt_of_lt_of_le lt_b_52 (Nat.le_of_eq g_55.symm))
    have ne_b_53_b_55 : b_53 ≠ b_55 := Nat.ne_of_lt (Nat.lt_of_lt_of_le lt_b_53 (Nat.le_of_eq g_55.symm))
    have g_b_55 : n0 ≤ b_55 := Nat.le_trans Zs (Nat.le_of_eq g_55.symm)
    rw [← g_55] at A_55 D_55 st_55
    replace V_b_52 := V_b_52.ext Ex_55
    replace E_b_52 := E_b_52.ext Ex_55
    replace E_b_53 := E_b_53.ext Ex_55
    replace F_flags_b_53 := F_flags_b_53.ext Ex_55
    replace lt_b_52 := Nat.lt_of_lt_of_le lt_b_52 Ex_55.1
    replace lt_b_53 := Nat.lt_of_lt_of_le lt_b_53 Ex_55.1
    replace Zs := Nat.le_trans Zs Ex_55.1
    have E_b_55 := A_55
    have lt_b_55 := E_b_55.lt
    have F_flags_b_55 : Fld Z h_55 b_55 "com/example/pointcode/pointcode/sctp/DataChunk" "flags" "I" (.int (0 : Int32)) := D_55 (Or.inr (hw _ (List.mem_of_getElem? (i := 25) rfl))) (ty := .int) (by decide)
    have F_tsn_b_55 : Fld Z h_55 b_55 "com/example/pointcode/pointcode/sctp/DataChunk" "tsn" "I" (.int (0 : Int32)) := D_55 (Or.inr (hw _ (List.mem_of_getElem? (i := 27) rfl))) (ty := .int) (by decide)
    have F_stream_b_55 : Fld Z h_55 b_55 "com/example/pointcode/pointcode/sctp/DataChunk" "stream" "I" (.int (0 : Int32)) := D_55 (Or.inr (hw _ (List.mem_of_getElem? (i := 29) rfl))) (ty := .int) (by decide)
    have F_streamSequence_b_55 : Fld Z h_55 b_55 "com/example/pointcode/pointcode/sctp/DataChunk" "streamSequence" "I" (.int (0 : Int32)) := D_55 (Or.inr (hw _ (List.mem_of_getElem? (i := 31) rfl))) (ty := .int) (by decide)
    have F_payloadProtocol_b_55 : Fld Z h_55 b_55 "com/example/pointcode/pointcode/sctp/DataChunk" "payloadProtocol" "I" (.int (0 : Int32)) := D_55 (Or.inr (hw _ (List.mem_of_getElem? (i := 33) rfl))) (ty := .int) (by decide)
    have F_payload_b_55 : Fld Z h_55 b_55 "com/example/pointcode/pointcode/sctp/DataChunk" "payload" "[B" .null := D_55 (Or.inr (hw _ (List.mem_of_getElem? (i := 35) rfl))) (ty := (.array .byte)) (by decide)
    refine Win.go st_55 ?_
    clear st_55 Ex_55 A_55 D_55 g_55 X_54 e_54
    show Win p.tables e below _ (T_55.setTop (mkF m 28 #[.val (.int p0), .val (.int p1), .val (.int p2), .val (.int p3), .val (.int p4), .val (.int p5), .val (.ref b_52), .val (.ref b_53), .unset, .unset, .unset] [(.ref b_55)]))
    refine s_dup (pc' := 29) X_55.here hx (hb hby at_28) rfl rfl ?_
    refine s_iloadN (pc' := 30) X_55.here hx (hb hby at_29) rfl rfl ?_
    refine s_iconst (pc' := 31) (z := (2 : Int32)) X_55.here hx (hb hby at_30) rfl rfl ?_
    refine s_ior (pc' := 32) X_55.here hx (hb hby at_31) rfl ?_
    refine s_iloadN (pc' := 33) X_55.here hx (hb hby at_32) rfl rfl ?_
    refine s_iloadN (pc' := 34) X_55.here hx (hb hby at_33) rfl rfl ?_
    refine s_iloadN (pc' := 35) X_55.here hx (hb hby at_34) rfl rfl ?_
    refine s_iload (pc' := 37) X_55.here hx (hb hby at_35) rfl rfl ?_
    refine s_aload (pc' := 39) X_55.here hx (hb hby at_37) rfl rfl rfl ?_
    obtain ⟨_, _, ⟨T_56, L_56, k_56, n_56⟩, -, X_56, ⟨Lc_56, hQ_56, l_56, y_56, z_56⟩, st_56⟩ := X_55.specialBack hx (y := (⟨"com/example/pointcode/pointcode/sctp/DataChunk", "<init>", "(IIIII[B)V"⟩ : MethodName)) rfl hown (mvT hZ (hw _ (List.mem_of_getElem? (i := 4) rfl))) (mvT hZ (hw _ (List.mem_of_getElem? (i := 5) rfl))) (mvT hZ (hw _ (List.mem_of_getElem? (i := 6) rfl))) (by decide) (backOf (W := 1) (rm1_1 l Z a0 hw [] b_55 (p0 ||| (2 : Int32)) p1 p2 p3 p4 b_52 k_52 h_55 n0 Zs E_b_55 F_flags_b_55 F_tsn_b_55 F_stream_b_55 F_streamSequence_b_55 F_payloadProtocol_b_55 F_payload_b_55 g_b_55 E_b_52 V_b_52 ne_b_52_b_55) hZ (hw _ (List.mem_of_getElem? (i := 6) rfl)) (hw _ (List.mem_of_getElem? (i := 3) rfl)) (by decide) (by decide)) (g := (mkF m 39 #[.val (.int p0), .val (.int p1), .val (.int p2), .val (.int p3), .val (.int p4), .val (.int p5), .val (.ref b_52), .val (.ref b_53), .unset, .unset, .unset] [(.ref b_52), (.int p4), (.int p3), (.int p2), (.int p1), (.int (p0 ||| (2 : Int32))), (.ref b_55), (.ref b_55)])) rfl (by rw [hml]; rfl) (Steps.refl _) (a := b_55) (argsL := [(.int (p0 ||| (2 : Int32))), (.int p1), (.int p2), (.int p3), (.int p4), (.ref b_52)]) (rest := [(.ref b_55)]) (lenOf pd_1 rfl) rfl (by show 2 * 0 + _ ≤ _; exact Nat.le_of_eq rfl) (hb hby at_39) (fun _ _ => ⟨rfl, e_55, (by decide : 4 + 1 ≤ _), (by decide : 14 + 1 ≤ _)⟩)
    dsimp only [Pt.U, Pt.locs, Pt.cells, Pt.slots] at X_56 l_56 y_56 z_56 st_56 hQ_56
    subst l_56 y_56 z_56
    obtain ⟨h_56, e_56⟩ : ∃ z, T_56.heap = z := ⟨_, rfl⟩
    rw [e_56] at hQ_56
    obtain ⟨Nq_56, K_56, n_56_F_flags_b_55, rfl⟩ := hQ_56
    replace Nf := Fr.app Nf Nq_56
    replace V_b_52 := V_b_52.keep K_56 (ninS ne_b_52_b_55 nin0)
    replace E_b_52 := E_b_52.keep K_56
    replace E_b_53 := E_b_53.keep K_56
    replace F_flags_b_53 := F_flags_b_53.keep K_56 (ninS ne_b_53_b_55 nin0)
    replace E_b_55 := E_b_55.keep K_56
    clear F_flags_b_55
    clear F_tsn_b_55
    clear F_stream_b_55
    clear F_streamSequence_b_55
    clear F_payloadProtocol_b_55
    clear F_payload_b_55
    replace lt_b_52 := Nat.lt_of_lt_of_le lt_b_52 K_56.1
    replace lt_b_53 := Nat.lt_of_lt_of_le lt_b_53 K_56.1
    replace lt_b_55 := Nat.lt_of_lt_of_le lt_b_55 K_56.1
    replace Zs := Nat.le_trans Zs K_56.1
    have F_flags_b_55 := n_56_F_flags_b_55
    refine Win.come st_56 ?_
    clear st_56 Nq_56 X_55 e_55 K_56
    show Win p.tables e below _ (T_56.setTop (mkF m 42 #[.val (.int p0), .val (.int p1), .val (.int p2), .val (.int p3), .val (.int p4), .val (.int p5), .val (.ref b_52), .val (.ref b_53), .unset, .unset, .unset] [(.ref b_55)]))
    refine s_astore (pc' := 44) (l' := #[.val (.int p0), .val (.int p1), .val (.int p2), .val (.int p3), .val (.int p4), .val (.int p5), .val (.ref b_52), .val (.ref b_53), .val (.ref b_55), .unset, .unset]) X_56.here hx (hb hby at_42) rfl rfl rfl ?_
    obtain ⟨T_57, h_57, X_57, e_57, Ex_57, A_57, D_57, -, st_57⟩ := newO X_56 hx hZ hown (hw _ (List.mem_of_getElem? (i := 1) rfl)) (hw _ (List.mem_of_getElem? (i := 2) rfl)) (hw _ (List.mem_of_getElem? (i := 3) rfl)) e_56 (g := (mkF m 44 #[.val (.int p0), .val (.int p1), .val (.int p2), .val (.int p3), .val (.int p4), .val (.int p5), .val (.ref b_52), .val (.ref b_53), .val (.ref b_55), .unset, .unset] [])) rfl (hb hby at_44) (by decide) (by decide)
    obtain ⟨b_57, g_57⟩ : ∃ z, z = h_56.size := ⟨_, rfl⟩
    have ne_b_52_b_57 : b_52 ≠ b_57 := Nat.ne_of_lt (Nat.lt_of_lt_of_le lt_b_52 (Nat.le_of_eq g_57.symm))
    have ne_b_53_b_57 : b_53 ≠ b_57 := Nat.ne_of_lt (Nat.lt_of_lt_of_le lt_b_53 (Nat.le_of_eq g_57.symm))
    have ne_b_55_b_57 : b_55 ≠ b_57 := Nat.ne_of_lt (Nat.lt_of_lt_of_le lt_b_55 (Nat.le_of_eq g_57.symm))
    have g_b_57 : n0 ≤ b_57 := Nat.le_trans Zs (Nat.le_of_eq g_57.symm)
    rw [← g_57] at A_57 D_57 st_57
    replace V_b_52 := V_b_52.ext Ex_57
    replace E_b_52 := E_b_52.ext Ex_57
    replace E_b_53 := E_b_53.ext Ex_57
    replace F_flags_b_53 := F_flags_b_53.ext Ex_57
    replace E_b_55 := E_b_55.ext Ex_57
    replace F_flags_b_55 := F_flags_b_55.ext Ex_57
    replace lt_b_52 := Nat.lt_of_lt_of_le lt_b_52 Ex_57.1
    replace lt_b_53 := Nat.lt_of_lt_of_le lt_b_53 Ex_57.1
    replace lt_b_55 := Nat.lt_of_lt_of_le lt_b_55 Ex_57.1
    replace Zs := Nat.le_trans Zs Ex_57.1
    have E_b_57 := A_57
    have lt_b_57 := E_b_57.lt
    have F_flags_b_57 : Fld Z h_57 b_57 "com/example/pointcode/pointcode/sctp/DataChunk" "flags" "I" (.int (0 : Int32)) := D_57 (Or.inr (hw _ (List.mem_of_getElem? (i := 25) rfl))) (ty := .int) (by decide)
    have F_tsn_b_57 : Fld Z h_57 b_57 "com/example/pointcode/pointcode/sctp/DataChunk" "tsn" "I" (.int (0 : Int32)) := D_57 (Or.inr (hw _ (List.mem_of_getElem? (i := 27) rfl))) (ty := .int) (by decide)
    have F_stream_b_57 : Fld Z h_57 b_57 "com/example/pointcode/pointcode/sctp/DataChunk" "stream" "I" (.int (0 : Int32)) := D_57 (Or.inr (hw _ (List.mem_of_getElem? (i := 29) rfl))) (ty := .int) (by decide)
    have F_streamSequence_b_57 : Fld Z h_57 b_57 "com/example/pointcode/pointcode/sctp/DataChunk" "streamSequence" "I" (.int (0 : Int32)) := D_57 (Or.inr (hw _ (List.mem_of_getElem? (i := 31) rfl))) (ty := .int) (by decide)
    have F_payloadProtocol_b_57 : Fld Z h_57 b_57 "com/example/pointcode/pointcode/sctp/DataChunk" "payloadProtocol" "I" (.int (0 : Int32)) := D_57 (Or.inr (hw _ (List.mem_of_getElem? (i := 33) rfl))) (ty := .int) (by decide)
    have F_payload_b_57 : Fld Z h_57 b_57 "com/example/pointcode/pointcode/sctp/DataChunk" "payload" "[B" .null := D_57 (Or.inr (hw _ (List.mem_of_getElem? (i := 35) rfl))) (ty := (.array .byte)) (by decide)
    refine Win.go st_57 ?_
    clear st_57 Ex_57 A_57 D_57 g_57 X_56 e_56
    show Win p.tables e below _ (T_57.setTop (mkF m 47 #[.val (.int p0), .val (.int p1), .val (.int p2), .val (.int p3), .val (.int p4), .val (.int p5), .val (.ref b_52), .val (.ref b_53), .val (.ref b_55), .unset, .unset] [(.ref b_57)]))
    refine s_dup (pc' := 48) X_57.here hx (hb hby at_47) rfl rfl ?_
    refine s_iloadN (pc' := 49) X_57.here hx (hb hby at_48) rfl rfl ?_
    refine s_bipush (pc' := 51) (z := (-3 : Int32)) X_57.here hx (hb hby at_49) rfl rfl ?_
    refine s_iand (pc' := 52) X_57.here hx (hb hby at_51) rfl ?_
    refine s_iloadN (pc' := 53) X_57.here hx (hb hby at_52) rfl rfl ?_
    refine s_iloadN (pc' := 54) X_57.here hx (hb hby at_53) rfl rfl ?_
    refine s_iloadN (pc' := 55) X_57.here hx (hb hby at_54) rfl rfl ?_
    refine s_iload (pc' := 57) X_57.here hx (hb hby at_55) rfl rfl ?_
    refine s_aload (pc' := 59) X_57.here hx (hb hby at_57) rfl rfl rfl ?_
    obtain ⟨_, _, ⟨T_58, L_58, k_58, n_58⟩, -, X_58, ⟨Lc_58, hQ_58, l_58, y_58, z_58⟩, st_58⟩ := X_57.specialBack hx (y := (⟨"com/example/pointcode/pointcode/sctp/DataChunk", "<init>", "(IIIII[B)V"⟩ : MethodName)) rfl hown (mvT hZ (hw _ (List.mem_of_getElem? (i := 4) rfl))) (mvT hZ (hw _ (List.mem_of_getElem? (i := 5) rfl))) (mvT hZ (hw _ (List.mem_of_getElem? (i := 6) rfl))) (by decide) (backOf (W := 1) (rm1_1 l Z a0 hw [] b_57 (p0 &&& (-3 : Int32)) p1 p2 p3 p4 b_52 k_52 h_57 n0 Zs E_b_57 F_flags_b_57 F_tsn_b_57 F_stream_b_57 F_streamSequence_b_57 F_payloadProtocol_b_57 F_payload_b_57 g_b_57 E_b_52 V_b_52 ne_b_52_b_57) hZ (hw _ (List.mem_of_getElem? (i := 6) rfl)) (hw _ (List.mem_of_getElem? (i := 3) rfl)) (by decide) (by decide)) (g := (mkF m 59 #[.val (.int p0), .val (.int p1), .val (.int p2), .val (.int p3), .val (.int p4), .val (.int p5), .val (.ref b_52), .val (.ref b_53), .val (.ref b_55), .unset, .unset] [(.ref b_52), (.int p4), (.int p3), (.int p2), (.int p1), (.int (p0 &&& (-3 : Int32))), (.ref b_57), (.ref b_57)])) rfl (by rw [hml]; rfl) (Steps.refl _) (a := b_57) (argsL := [(.int (p0 &&& (-3 : Int32))), (.int p1), (.int p2), (.int p3), (.int p4), (.ref b_52)]) (rest := [(.ref b_57)]) (lenOf pd_1 rfl) rfl (by show 2 * 0 + _ ≤ _; exact Nat.le_of_eq rfl) (hb hby at_59) (fun _ _ => ⟨rfl, e_57, (by decide : 6 + 1 ≤ _), (by decide : 21 + 1 ≤ _)⟩)
    dsimp only [Pt.U, Pt.locs, Pt.cells, Pt.slots] at X_58 l_58 y_58 z_58 st_58 hQ_58
    subst l_58 y_58 z_58
    obtain ⟨h_58, e_58⟩ : ∃ z, T_58.heap = z := ⟨_, rfl⟩
    rw [e_58] at hQ_58
    obtain ⟨Nq_58, K_58, n_58_F_flags_b_57, rfl⟩ := hQ_58
    replace Nf := Fr.app Nf Nq_58
    replace V_b_52 := V_b_52.keep K_58 (ninS ne_b_52_b_57 nin0)
    replace E_b_52 := E_b_52.keep K_58
    replace E_b_53 := E_b_53.keep K_58
    replace F_flags_b_53 := F_flags_b_53.keep K_58 (ninS ne_b_53_b_57 nin0)
    replace E_b_55 := E_b_55.keep K_58
    replace F_flags_b_55 := F_flags_b_55.keep K_58 (ninS ne_b_55_b_57 nin0)
    replace E_b_57 := E_b_57.keep K_58
    clear F_flags_b_57
    clear F_tsn_b_57
    clear F_stream_b_57
    clear F_streamSequence_b_57
    clear F_payloadProtocol_b_57
    clear F_payload_b_57
    replace lt_b_52 := Nat.lt_of_lt_of_le lt_b_52 K_58.1
    replace lt_b_53 := Nat.lt_of_lt_of_le lt_b_53 K_58.1
    replace lt_b_55 := Nat.lt_of_lt_of_le lt_b_55 K_58.1
    replace lt_b_57 := Nat.lt_of_lt_of_le lt_b_57 K_58.1
    replace Zs := Nat.le_trans Zs K_58.1
    have F_flags_b_57 := n_58_F_flags_b_57
    refine Win.come st_58 ?_
    clear st_58 Nq_58 X_57 e_57 K_58
    show Win p.tables e below _ (T_58.setTop (mkF m 62 #[.val (.int p0), .val (.int p1), .val (.int p2), .val (.int p3), .val (.int p4), .val (.int p5), .val (.ref b_52), .val (.ref b_53), .val (.ref b_55), .unset, .unset] [(.ref b_57)]))
    refine s_astore (pc' := 64) (l' := #[.val (.int p0), .val (.int p1), .val (.int p2), .val (.int p3), .val (.int p4), .val (.int p5), .val (.ref b_52), .val (.ref b_53), .val (.ref b_55), .val (.ref b_57), .unset]) X_58.here hx (hb hby at_62) rfl rfl rfl ?_
    refine s_iloadN (pc' := 65) X_58.here hx (hb hby at_64) rfl rfl ?_
    refine s_iconst (pc' := 66) (z := (1 : Int32)) X_58.here hx (hb hby at_65) rfl rfl ?_
    refine Win.go (fun _ k => XT.iushr X_58.here hx rfl (hb hby at_66) rfl k) ?_
    show Win p.tables e below _ (T_58.setTop (mkF m 67 #[.val (.int p0), .val (.int p1), .val (.int p2), .val (.int p3), .val (.int p4), .val (.int p5), .val (.ref b_52), .val (.ref b_53), .val (.ref b_55), .val (.ref b_57), .unset] [(.int (XT.ushr p0 (1 : Int32)))]))
    refine s_iconst (pc' := 68) (z := (1 : Int32)) X_58.here hx (hb hby at_67) rfl rfl ?_
    refine s_iand (pc' := 69) X_58.here hx (hb hby at_68) rfl ?_
    refine s_iconst (pc' := 70) (z := (1 : Int32)) X_58.here hx (hb hby at_69) rfl rfl ?_
    by_cases hc70 : (((XT.ushr p0 (1 : Int32)) &&& (1 : Int32))).toInt = (1 : Int)
    · skip
      refine s_icmpNo (pc' := 73) X_58.here hx (hb hby at_70) rfl (teqI (x := ((XT.ushr p0 (1 : Int32)) &&& (1 : Int32))) (y := (1 : Int32)) hc70).2 ?_
      refine s_iconst (pc' := 74) (z := (1 : Int32)) X_58.here hx (hb hby at_73) rfl rfl ?_
      refine s_goto (pc' := 78) X_58.here hx (hb hby at_74) (by decide) (by decide) ?_
      refine s_istore (pc' := 80) (l' := #[.val (.int p0), .val (.int p1), .val (.int p2), .val (.int p3), .val (.int p4), .val (.int p5), .val (.ref b_52), .val (.ref b_53), .val (.ref b_55), .val (.ref b_57), .val (.int (1 : Int32))]) X_58.here hx (hb hby at_78) rfl rfl ?_
      refine s_aload (pc' := 82) X_58.here hx (hb hby at_80) rfl rfl rfl ?_
      obtain ⟨cq_59, kq_59, q_59a, q_59b, q_59c⟩ := isOf hZ e_58 E_b_53
      obtain ⟨_, _, ⟨T_59, L_59, k_59, n_59⟩, -, X_59, ⟨Lc_59, hQ_59, l_59, y_59, z_59⟩, st_59⟩ := X_58.virtualBack hx (y := (⟨"com/example/pointcode/pointcode/sctp/DataChunk", "isBeginning", "()Z"⟩ : MethodName)) (z := (⟨"com/example/pointcode/pointcode/sctp/DataChunk", "isBeginning", "()Z"⟩ : MethodName)) hown (mvT hZ (hw _ (List.mem_of_getElem? (i := 36) rfl))) (mvT hZ (hw _ (List.mem_of_getElem? (i := 37) rfl))) (notFace_of_selects (args := #[]) (mvT hZ (hw _ (List.mem_of_getElem? (i := 39) rfl)))) (mvT hZ (hw _ (List.mem_of_getElem? (i := 39) rfl))) (mvT hZ (hw _ (List.mem_of_getElem? (i := 38) rfl))) (by decide) (backOf (W := 0) (rm4 l Z a0 hw [] b_53 p0 h_58 n0 Zs F_flags_b_53) hZ (hw _ (List.mem_of_getElem? (i := 40) rfl)) (hw _ (List.mem_of_getElem? (i := 3) rfl)) (by decide) (by decide)) q_59a q_59c (g := (mkF m 82 #[.val (.int p0), .val (.int p1), .val (.int p2), .val (.int p3), .val (.int p4), .val (.int p5), .val (.ref b_52), .val (.ref b_53), .val (.ref b_55), .val (.ref b_57), .val (.int (1 : Int32))] [(.ref b_53)])) rfl (by rw [hml]; rfl) (Steps.refl _) (argsL := []) (rest := []) (lenOf pd_2 rfl) rfl (by show 2 * 0 + _ ≤ _; exact Nat.le_of_eq rfl) (hb hby at_82) (fun _ _ => ⟨rfl, e_58, (by decide : 7 + 0 ≤ _), (by decide : 22 + 0 ≤ _)⟩)
      dsimp only [Pt.U, Pt.locs, Pt.cells, Pt.slots] at X_59 l_59 y_59 z_59 st_59 hQ_59
      subst l_59 y_59 z_59
      obtain ⟨Nq_59, e_59, r1, rfl, hr1⟩ := hQ_59
      replace Nf := Fr.app Nf Nq_59
      refine Win.come st_59 ?_
      clear st_59 Nq_59 X_58 e_58
      show Win p.tables e below _ (T_59.setTop (mkF m 85 #[.val (.int p0), .val (.int p1), .val (.int p2), .val (.int p3), .val (.int p4), .val (.int p5), .val (.ref b_52), .val (.ref b_53), .val (.ref b_55), .val (.ref b_57), .val (.int (1 : Int32))] [(.int r1)]))
      refine s_iload (pc' := 87) X_59.here hx (hb hby at_85) rfl rfl ?_
      by_cases hc87 : (r1).toInt = (1 : Int)
      · skip
        refine s_icmpNo (pc' := 90) X_59.here hx (hb hby at_87) rfl (teqI (x := r1) (y := (1 : Int32)) hc87).2 ?_
        refine s_aload (pc' := 92) X_59.here hx (hb hby at_90) rfl rfl rfl ?_
        obtain ⟨cq_60, kq_60, q_60a, q_60b, q_60c⟩ := isOf hZ e_59 E_b_55
        obtain ⟨_, _, ⟨T_60, L_60, k_60, n_60⟩, -, X_60, ⟨Lc_60, hQ_60, l_60, y_60, z_60⟩, st_60⟩ := X_59.virtualBack hx (y := (⟨"com/example/pointcode/pointcode/sctp/DataChunk", "isBeginning", "()Z"⟩ : MethodName)) (z := (⟨"com/example/pointcode/pointcode/sctp/DataChunk", "isBeginning", "()Z"⟩ : MethodName)) hown (mvT hZ (hw _ (List.mem_of_getElem? (i := 36) rfl))) (mvT hZ (hw _ (List.mem_of_getElem? (i := 37) rfl))) (notFace_of_selects (args := #[]) (mvT hZ (hw _ (List.mem_of_getElem? (i := 39) rfl)))) (mvT hZ (hw _ (List.mem_of_getElem? (i := 39) rfl))) (mvT hZ (hw _ (List.mem_of_getElem? (i := 38) rfl))) (by decide) (backOf (W := 0) (rm4 l Z a0 hw [] b_55 (p0 ||| (2 : Int32)) h_58 n0 Zs F_flags_b_55) hZ (hw _ (List.mem_of_getElem? (i := 40) rfl)) (hw _ (List.mem_of_getElem? (i := 3) rfl)) (by decide) (by decide)) q_60a q_60c (g := (mkF m 92 #[.val (.int p0), .val (.int p1), .val (.int p2), .val (.int p3), .val (.int p4), .val (.int p5), .val (.ref b_52), .val (.ref b_53), .val (.ref b_55), .val (.ref b_57), .val (.int (1 : Int32))] [(.ref b_55)])) rfl (by rw [hml]; rfl) (Steps.refl _) (argsL := []) (rest := []) (lenOf pd_2 rfl) rfl (by show 2 * 0 + _ ≤ _; exact Nat.le_of_eq rfl) (hb hby at_92) (fun _ _ => ⟨rfl, e_59, (by decide : 7 + 0 ≤ _), (by decide : 22 + 0 ≤ _)⟩)
        dsimp only [Pt.U, Pt.locs, Pt.cells, Pt.slots] at X_60 l_60 y_60 z_60 st_60 hQ_60
        subst l_60 y_60 z_60
        obtain ⟨Nq_60, e_60, r2, rfl, hr2⟩ := hQ_60
        replace Nf := Fr.app Nf Nq_60
        refine Win.come st_60 ?_
        clear st_60 Nq_60 X_59 e_59
        show Win p.tables e below _ (T_60.setTop (mkF m 95 #[.val (.int p0), .val (.int p1), .val (.int p2), .val (.int p3), .val (.int p4), .val (.int p5), .val (.ref b_52), .val (.ref b_53), .val (.ref b_55), .val (.ref b_57), .val (.int (1 : Int32))] [(.int r2)]))
        by_cases hc95 : (r2).toInt = (0 : Int)
        · skip
          refine s_ifYes (pc' := 110) X_60.here hx (hb hby at_95) ((if0 _ _).trans (teqI (x := r2) (y := (0 : Int32)) hc95).1) (by decide) (by decide) ?_
          refine s_iconst (pc' := 111) (z := (0 : Int32)) X_60.here hx (hb hby at_110) rfl rfl ?_
          exfalso
          omega
        · skip
          refine s_ifNo (pc' := 98) X_60.here hx (hb hby at_95) rfl ((if0 _ _).trans (feqI (x := r2) (y := (0 : Int32)) hc95).1) ?_
          refine s_aload (pc' := 100) X_60.here hx (hb hby at_98) rfl rfl rfl ?_
          obtain ⟨cq_61, kq_61, q_61a, q_61b, q_61c⟩ := isOf hZ e_60 E_b_57
          obtain ⟨_, _, ⟨T_61, L_61, k_61, n_61⟩, -, X_61, ⟨Lc_61, hQ_61, l_61, y_61, z_61⟩, st_61⟩ := X_60.virtualBack hx (y := (⟨"com/example/pointcode/pointcode/sctp/DataChunk", "isBeginning", "()Z"⟩ : MethodName)) (z := (⟨"com/example/pointcode/pointcode/sctp/DataChunk", "isBeginning", "()Z"⟩ : MethodName)) hown (mvT hZ (hw _ (List.mem_of_getElem? (i := 36) rfl))) (mvT hZ (hw _ (List.mem_of_getElem? (i := 37) rfl))) (notFace_of_selects (args := #[]) (mvT hZ (hw _ (List.mem_of_getElem? (i := 39) rfl)))) (mvT hZ (hw _ (List.mem_of_getElem? (i := 39) rfl))) (mvT hZ (hw _ (List.mem_of_getElem? (i := 38) rfl))) (by decide) (backOf (W := 0) (rm4 l Z a0 hw [] b_57 (p0 &&& (-3 : Int32)) h_58 n0 Zs F_flags_b_57) hZ (hw _ (List.mem_of_getElem? (i := 40) rfl)) (hw _ (List.mem_of_getElem? (i := 3) rfl)) (by decide) (by decide)) q_61a q_61c (g := (mkF m 100 #[.val (.int p0), .val (.int p1), .val (.int p2), .val (.int p3), .val (.int p4), .val (.int p5), .val (.ref b_52), .val (.ref b_53), .val (.ref b_55), .val (.ref b_57), .val (.int (1 : Int32))] [(.ref b_57)])) rfl (by rw [hml]; rfl) (Steps.refl _) (argsL := []) (rest := []) (lenOf pd_2 rfl) rfl (by show 2 * 0 + _ ≤ _; exact Nat.le_of_eq rfl) (hb hby at_100) (fun _ _ => ⟨rfl, e_60, (by decide : 7 + 0 ≤ _), (by decide : 22 + 0 ≤ _)⟩)
          dsimp only [Pt.U, Pt.locs, Pt.cells, Pt.slots] at X_61 l_61 y_61 z_61 st_61 hQ_61
          subst l_61 y_61 z_61
          obtain ⟨Nq_61, e_61, r3, rfl, hr3⟩ := hQ_61
          replace Nf := Fr.app Nf Nq_61
          refine Win.come st_61 ?_
          clear st_61 Nq_61 X_60 e_60
          show Win p.tables e below _ (T_61.setTop (mkF m 103 #[.val (.int p0), .val (.int p1), .val (.int p2), .val (.int p3), .val (.int p4), .val (.int p5), .val (.ref b_52), .val (.ref b_53), .val (.ref b_55), .val (.ref b_57), .val (.int (1 : Int32))] [(.int r3)]))
          by_cases hc103 : (r3).toInt = (0 : Int)
          · skip
            refine s_ifNo (pc' := 106) X_61.here hx (hb hby at_103) rfl ((if0 _ _).trans (teqI (x := r3) (y := (0 : Int32)) hc103).2) ?_
            refine s_iconst (pc' := 107) (z := (1 : Int32)) X_61.here hx (hb hby at_106) rfl rfl ?_
            refine s_goto (pc' := 111) X_61.here hx (hb hby at_107) (by decide) (by decide) ?_
            refine winN X_61 hx hlk e_61 (t := .boolean) Bd.returns (by simp) (hb hby at_111) (by decide) (by decide) (z' := 1) rfl ⟨Nf, rfl⟩
          · skip
            refine s_ifYes (pc' := 110) X_61.here hx (hb hby at_103) ((if0 _ _).trans (feqI (x := r3) (y := (0 : Int32)) hc103).2) (by decide) (by decide) ?_
            refine s_iconst (pc' := 111) (z := (0 : Int32)) X_61.here hx (hb hby at_110) rfl rfl ?_
            exfalso
            omega
      · skip
        refine s_icmpYes (pc' := 110) X_59.here hx (hb hby at_87) (feqI (x := r1) (y := (1 : Int32)) hc87).2 (by decide) (by decide) ?_
        refine s_iconst (pc' := 111) (z := (0 : Int32)) X_59.here hx (hb hby at_110) rfl rfl ?_
        exfalso
        omega
    · skip
      refine s_icmpYes (pc' := 77) X_58.here hx (hb hby at_70) (feqI (x := ((XT.ushr p0 (1 : Int32)) &&& (1 : Int32))) (y := (1 : Int32)) hc70).2 (by decide) (by decide) ?_
      refine s_iconst (pc' := 78) (z := (0 : Int32)) X_58.here hx (hb hby at_77) rfl rfl ?_
      refine s_istore (pc' := 80) (l' := #[.val (.int p0), .val (.int p1), .val (.int p2), .val (.int p3), .val (.int p4), .val (.int p5), .val (.ref b_52), .val (.ref b_53), .val (.ref b_55), .val (.ref b_57), .val (.int (0 : Int32))]) X_58.here hx (hb hby at_78) rfl rfl ?_
      refine s_aload (pc' := 82) X_58.here hx (hb hby at_80) rfl rfl rfl ?_
      obtain ⟨cq_62, kq_62, q_62a, q_62b, q_62c⟩ := isOf hZ e_58 E_b_53
      obtain ⟨_, _, ⟨T_62, L_62, k_62, n_62⟩, -, X_62, ⟨Lc_62, hQ_62, l_62, y_62, z_62⟩, st_62⟩ := X_58.virtualBack hx (y := (⟨"com/example/pointcode/pointcode/sctp/DataChunk", "isBeginning", "()Z"⟩ : MethodName)) (z := (⟨"com/example/pointcode/pointcode/sctp/DataChunk", "isBeginning", "()Z"⟩ : MethodName)) hown (mvT hZ (hw _ (List.mem_of_getElem? (i := 36) rfl))) (mvT hZ (hw _ (List.mem_of_getElem? (i := 37) rfl))) (notFace_of_selects (args := #[]) (mvT hZ (hw _ (List.mem_of_getElem? (i := 39) rfl)))) (mvT hZ (hw _ (List.mem_of_getElem? (i := 39) rfl))) (mvT hZ (hw _ (List.mem_of_getElem? (i := 38) rfl))) (by decide) (backOf (W := 0) (rm4 l Z a0 hw [] b_53 p0 h_58 n0 Zs F_flags_b_53) hZ (hw _ (List.mem_of_getElem? (i := 40) rfl)) (hw _ (List.mem_of_getElem? (i := 3) rfl)) (by decide) (by decide)) q_62a q_62c (g := (mkF m 82 #[.val (.int p0), .val (.int p1), .val (.int p2), .val (.int p3), .val (.int p4), .val (.int p5), .val (.ref b_52), .val (.ref b_53), .val (.ref b_55), .val (.ref b_57), .val (.int (0 : Int32))] [(.ref b_53)])) rfl (by rw [hml]; rfl) (Steps.refl _) (argsL := []) (rest := []) (lenOf pd_2 rfl) rfl (by show 2 * 0 + _ ≤ _; exact Nat.le_of_eq rfl) (hb hby at_82) (fun _ _ => ⟨rfl, e_58, (by decide : 7 + 0 ≤ _), (by decide : 22 + 0 ≤ _)⟩)
      dsimp only [Pt.U, Pt.locs, Pt.cells, Pt.slots] at X_62 l_62 y_62 z_62 st_62 hQ_62
      subst l_62 y_62 z_62
      obtain ⟨Nq_62, e_62, r1, rfl, hr1⟩ := hQ_62
      replace Nf := Fr.app Nf Nq_62
      refine Win.come st_62 ?_
      clear st_62 Nq_62 X_58 e_58
      show Win p.tables e below _ (T_62.setTop (mkF m 85 #[.val (.int p0), .val (.int p1), .val (.int p2), .val (.int p3), .val (.int p4), .val (.int p5), .val (.ref b_52), .val (.ref b_53), .val (.ref b_55), .val (.ref b_57), .val (.int (0 : Int32))] [(.int r1)]))
      refine s_iload (pc' := 87) X_62.here hx (hb hby at_85) rfl rfl ?_
      by_cases hc87 : (r1).toInt = (0 : Int)
      · skip
        refine s_icmpNo (pc' := 90) X_62.here hx (hb hby at_87) rfl (teqI (x := r1) (y := (0 : Int32)) hc87).2 ?_
        refine s_aload (pc' := 92) X_62.here hx (hb hby at_90) rfl rfl rfl ?_
        obtain ⟨cq_63, kq_63, q_63a, q_63b, q_63c⟩ := isOf hZ e_62 E_b_55
        obtain ⟨_, _, ⟨T_63, L_63, k_63, n_63⟩, -, X_63, ⟨Lc_63, hQ_63, l_63, y_63, z_63⟩, st_63⟩ := X_62.virtualBack hx (y := (⟨"com/example/pointcode/pointcode/sctp/DataChunk", "isBeginning", "()Z"⟩ : MethodName)) (z := (⟨"com/example/pointcode/pointcode/sctp/DataChunk", "isBeginning", "()Z"⟩ : MethodName)) hown (mvT hZ (hw _ (List.mem_of_getElem? (i := 36) rfl))) (mvT hZ (hw _ (List.mem_of_getElem? (i := 37) rfl))) (notFace_of_selects (args := #[]) (mvT hZ (hw _ (List.mem_of_getElem? (i := 39) rfl)))) (mvT hZ (hw _ (List.mem_of_getElem? (i := 39) rfl))) (mvT hZ (hw _ (List.mem_of_getElem? (i := 38) rfl))) (by decide) (backOf (W := 0) (rm4 l Z a0 hw [] b_55 (p0 ||| (2 : Int32)) h_58 n0 Zs F_flags_b_55) hZ (hw _ (List.mem_of_getElem? (i := 40) rfl)) (hw _ (List.mem_of_getElem? (i := 3) rfl)) (by decide) (by decide)) q_63a q_63c (g := (mkF m 92 #[.val (.int p0), .val (.int p1), .val (.int p2), .val (.int p3), .val (.int p4), .val (.int p5), .val (.ref b_52), .val (.ref b_53), .val (.ref b_55), .val (.ref b_57), .val (.int (0 : Int32))] [(.ref b_55)])) rfl (by rw [hml]; rfl) (Steps.refl _) (argsL := []) (rest := []) (lenOf pd_2 rfl) rfl (by show 2 * 0 + _ ≤ _; exact Nat.le_of_eq rfl) (hb hby at_92) (fun _ _ => ⟨rfl, e_62, (by decide : 7 + 0 ≤ _), (by decide : 22 + 0 ≤ _)⟩)
        dsimp only [Pt.U, Pt.locs, Pt.cells, Pt.slots] at X_63 l_63 y_63 z_63 st_63 hQ_63
        subst l_63 y_63 z_63
        obtain ⟨Nq_63, e_63, r2, rfl, hr2⟩ := hQ_63
        replace Nf := Fr.app Nf Nq_63
        refine Win.come st_63 ?_
        clear st_63 Nq_63 X_62 e_62
        show Win p.tables e below _ (T_63.setTop (mkF m 95 #[.val (.int p0), .val (.int p1), .val (.int p2), .val (.int p3), .val (.int p4), .val (.int p5), .val (.ref b_52), .val (.ref b_53), .val (.ref b_55), .val (.ref b_57), .val (.int (0 : Int32))] [(.int r2)]))
        by_cases hc95 : (r2).toInt = (0 : Int)
        · skip
          refine s_ifYes (pc' := 110) X_63.here hx (hb hby at_95) ((if0 _ _).trans (teqI (x := r2) (y := (0 : Int32)) hc95).1) (by decide) (by decide) ?_
          refine s_iconst (pc' := 111) (z := (0 : Int32)) X_63.here hx (hb hby at_110) rfl rfl ?_
          exfalso
          omega
        · skip
          refine s_ifNo (pc' := 98) X_63.here hx (hb hby at_95) rfl ((if0 _ _).trans (feqI (x := r2) (y := (0 : Int32)) hc95).1) ?_
          refine s_aload (pc' := 100) X_63.here hx (hb hby at_98) rfl rfl rfl ?_
          obtain ⟨cq_64, kq_64, q_64a, q_64b, q_64c⟩ := isOf hZ e_63 E_b_57
          obtain ⟨_, _, ⟨T_64, L_64, k_64, n_64⟩, -, X_64, ⟨Lc_64, hQ_64, l_64, y_64, z_64⟩, st_64⟩ := X_63.virtualBack hx (y := (⟨"com/example/pointcode/pointcode/sctp/DataChunk", "isBeginning", "()Z"⟩ : MethodName)) (z := (⟨"com/example/pointcode/pointcode/sctp/DataChunk", "isBeginning", "()Z"⟩ : MethodName)) hown (mvT hZ (hw _ (List.mem_of_getElem? (i := 36) rfl))) (mvT hZ (hw _ (List.mem_of_getElem? (i := 37) rfl))) (notFace_of_selects (args := #[]) (mvT hZ (hw _ (List.mem_of_getElem? (i := 39) rfl)))) (mvT hZ (hw _ (List.mem_of_getElem? (i := 39) rfl))) (mvT hZ (hw _ (List.mem_of_getElem? (i := 38) rfl))) (by decide) (backOf (W := 0) (rm4 l Z a0 hw [] b_57 (p0 &&& (-3 : Int32)) h_58 n0 Zs F_flags_b_57) hZ (hw _ (List.mem_of_getElem? (i := 40) rfl)) (hw _ (List.mem_of_getElem? (i := 3) rfl)) (by decide) (by decide)) q_64a q_64c (g := (mkF m 100 #[.val (.int p0), .val (.int p1), .val (.int p2), .val (.int p3), .val (.int p4), .val (.int p5), .val (.ref b_52), .val (.ref b_53), .val (.ref b_55), .val (.ref b_57), .val (.int (0 : Int32))] [(.ref b_57)])) rfl (by rw [hml]; rfl) (Steps.refl _) (argsL := []) (rest := []) (lenOf pd_2 rfl) rfl (by show 2 * 0 + _ ≤ _; exact Nat.le_of_eq rfl) (hb hby at_100) (fun _ _ => ⟨rfl, e_63, (by decide : 7 + 0 ≤ _), (by decide : 22 + 0 ≤ _)⟩)
          dsimp only [Pt.U, Pt.locs, Pt.cells, Pt.slots] at X_64 l_64 y_64 z_64 st_64 hQ_64
          subst l_64 y_64 z_64
          obtain ⟨Nq_64, e_64, r3, rfl, hr3⟩ := hQ_64
          replace Nf := Fr.app Nf Nq_64
          refine Win.come st_64 ?_
          clear st_64 Nq_64 X_63 e_63
          show Win p.tables e below _ (T_64.setTop (mkF m 103 #[.val (.int p0), .val (.int p1), .val (.int p2), .val (.int p3), .val (.int p4), .val (.int p5), .val (.ref b_52), .val (.ref b_53), .val (.ref b_55), .val (.ref b_57), .val (.int (0 : Int32))] [(.int r3)]))
          by_cases hc103 : (r3).toInt = (0 : Int)
          · skip
            refine s_ifNo (pc' := 106) X_64.here hx (hb hby at_103) rfl ((if0 _ _).trans (teqI (x := r3) (y := (0 : Int32)) hc103).2) ?_
            refine s_iconst (pc' := 107) (z := (1 : Int32)) X_64.here hx (hb hby at_106) rfl rfl ?_
            refine s_goto (pc' := 111) X_64.here hx (hb hby at_107) (by decide) (by decide) ?_
            refine winN X_64 hx hlk e_64 (t := .boolean) Bd.returns (by simp) (hb hby at_111) (by decide) (by decide) (z' := 1) rfl ⟨Nf, rfl⟩
          · skip
            refine s_ifYes (pc' := 110) X_64.here hx (hb hby at_103) ((if0 _ _).trans (feqI (x := r3) (y := (0 : Int32)) hc103).2) (by decide) (by decide) ?_
            refine s_iconst (pc' := 111) (z := (0 : Int32)) X_64.here hx (hb hby at_110) rfl rfl ?_
            exfalso
            omega
      · skip
        refine s_icmpYes (pc' := 110) X_62.here hx (hb hby at_87) (feqI (x := r1) (y := (0 : Int32)) hc87).2 (by decide) (by decide) ?_
        refine s_iconst (pc' := 111) (z := (0 : Int32)) X_62.here hx (hb hby at_110) rfl rfl ?_
        exfalso
        omega
  · skip
    show Win p.tables e below _ (s₁.setTop (mkF m 4 #[.val (.int p0), .val (.int p1), .val (.int p2), .val (.int p3), .val (.int p4), .val (.int p5), .unset, .unset, .unset, .unset, .unset] [(.int (2 : Int32))]))
    obtain ⟨T_65, h_65, k_65, X_65, e_65, Ex_65, A_65, EA_65, st_65⟩ := newPE X0 hx hZ (hw _ (List.mem_of_getElem? (i := 0) rfl)) e0 (g := (mkF m 4 #[.val (.int p0), .val (.int p1), .val (.int p2), .val (.int p3), .val (.int p4), .val (.int p5), .unset, .unset, .unset, .unset, .unset] [(.int (2 : Int32))])) rfl (hb hby at_4) rfl (by decide) (cap := 2) (by decide) (by decide) (by decide) (by decide) (ad := "[B") (by decide)
    obtain ⟨b_65, g_65⟩ : ∃ z, z = h0.size := ⟨_, rfl⟩
    have g_b_65 : n0 ≤ b_65 := Nat.le_trans Zs (Nat.le_of_eq g_65.symm)
    rw [← g_65] at A_65 EA_65 st_65
    replace Zs := Nat.le_trans Zs Ex_65.1
    have V_b_65 : Arv Z h_65 b_65 k_65 .byte (2 : Int32) [(.int (0 : Int32)), (.int (0 : Int32))] (.int (0 : Int32)) := (Arv.new A_65 (by decide)).pad (pad_rep [] (.int (0 : Int32)) 2)
    have lt_b_65 := V_b_65.lt
    have E_b_65 := EA_65
    refine Win.go st_65 ?_
    clear st_65 Ex_65 A_65 EA_65 g_65 X0 e0
    show Win p.tables e below _ (T_65.setTop (mkF m 6 #[.val (.int p0), .val (.int p1), .val (.int p2), .val (.int p3), .val (.int p4), .val (.int p5), .unset, .unset, .unset, .unset, .unset] [(.ref b_65)]))
    refine s_astore (pc' := 8) (l' := #[.val (.int p0), .val (.int p1), .val (.int p2), .val (.int p3), .val (.int p4), .val (.int p5), .val (.ref b_65), .unset, .unset, .unset, .unset]) X_65.here hx (hb hby at_6) rfl rfl rfl ?_
    obtain ⟨T_66, h_66, X_66, e_66, Ex_66, A_66, D_66, -, st_66⟩ := newO X_65 hx hZ hown (hw _ (List.mem_of_getElem? (i := 1) rfl)) (hw _ (List.mem_of_getElem? (i := 2) rfl)) (hw _ (List.mem_of_getElem? (i := 3) rfl)) e_65 (g := (mkF m 8 #[.val (.int p0), .val (.int p1), .val (.int p2), .val (.int p3), .val (.int p4), .val (.int p5), .val (.ref b_65), .unset, .unset, .unset, .unset] [])) rfl (hb hby at_8) (by decide) (by decide)
    obtain ⟨b_66, g_66⟩ : ∃ z, z = h_65.size := ⟨_, rfl⟩
    have ne_b_65_b_66 : b_65 ≠ b_66 := Nat.ne_of_lt (Nat.lt_of_lt_of_le lt_b_65 (Nat.le_of_eq g_66.symm))
    have g_b_66 : n0 ≤ b_66 := Nat.le_trans Zs (Nat.le_of_eq g_66.symm)
    rw [← g_66] at A_66 D_66 st_66
    replace V_b_65 := V_b_65.ext Ex_66
    replace E_b_65 := E_b_65.ext Ex_66
    replace lt_b_65 := Nat.lt_of_lt_of_le lt_b_65 Ex_66.1
    replace Zs := Nat.le_trans Zs Ex_66.1
    have E_b_66 := A_66
    have lt_b_66 := E_b_66.lt
    have F_flags_b_66 : Fld Z h_66 b_66 "com/example/pointcode/pointcode/sctp/DataChunk" "flags" "I" (.int (0 : Int32)) := D_66 (Or.inr (hw _ (List.mem_of_getElem? (i := 25) rfl))) (ty := .int) (by decide)
    have F_tsn_b_66 : Fld Z h_66 b_66 "com/example/pointcode/pointcode/sctp/DataChunk" "tsn" "I" (.int (0 : Int32)) := D_66 (Or.inr (hw _ (List.mem_of_getElem? (i := 27) rfl))) (ty := .int) (by decide)
    have F_stream_b_66 : Fld Z h_66 b_66 "com/example/pointcode/pointcode/sctp/DataChunk" "stream" "I" (.int (0 : Int32)) := D_66 (Or.inr (hw _ (List.mem_of_getElem? (i := 29) rfl))) (ty := .int) (by decide)
    have F_streamSequence_b_66 : Fld Z h_66 b_66 "com/example/pointcode/pointcode/sctp/DataChunk" "streamSequence" "I" (.int (0 : Int32)) := D_66 (Or.inr (hw _ (List.mem_of_getElem? (i := 31) rfl))) (ty := .int) (by decide)
    have F_payloadProtocol_b_66 : Fld Z h_66 b_66 "com/example/pointcode/pointcode/sctp/DataChunk" "payloadProtocol" "I" (.int (0 : Int32)) := D_66 (Or.inr (hw _ (List.mem_of_getElem? (i := 33) rfl))) (ty := .int) (by decide)
    have F_payload_b_66 : Fld Z h_66 b_66 "com/example/pointcode/pointcode/sctp/DataChunk" "payload" "[B" .null := D_66 (Or.inr (hw _ (List.mem_of_getElem? (i := 35) rfl))) (ty := (.array .byte)) (by decide)
    refine Win.go st_66 ?_
    clear st_66 Ex_66 A_66 D_66 g_66 X_65 e_65
    show Win p.tables e below _ (T_66.setTop (mkF m 11 #[.val (.int p0), .val (.int p1), .val (.int p2), .val (.int p3), .val (.int p4), .val (.int p5), .val (.ref b_65), .unset, .unset, .unset, .unset] [(.ref b_66)]))
    refine s_dup (pc' := 12) X_66.here hx (hb hby at_11) rfl rfl ?_
    refine s_iloadN (pc' := 13) X_66.here hx (hb hby at_12) rfl rfl ?_
    refine s_iloadN (pc' := 14) X_66.here hx (hb hby at_13) rfl rfl ?_
    refine s_iloadN (pc' := 15) X_66.here hx (hb hby at_14) rfl rfl ?_
    refine s_iloadN (pc' := 16) X_66.here hx (hb hby at_15) rfl rfl ?_
    refine s_iload (pc' := 18) X_66.here hx (hb hby at_16) rfl rfl ?_
    refine s_aload (pc' := 20) X_66.here hx (hb hby at_18) rfl rfl rfl ?_
    obtain ⟨_, _, ⟨T_67, L_67, k_67, n_67⟩, -, X_67, ⟨Lc_67, hQ_67, l_67, y_67, z_67⟩, st_67⟩ := X_66.specialBack hx (y := (⟨"com/example/pointcode/pointcode/sctp/DataChunk", "<init>", "(IIIII[B)V"⟩ : MethodName)) rfl hown (mvT hZ (hw _ (List.mem_of_getElem? (i := 4) rfl))) (mvT hZ (hw _ (List.mem_of_getElem? (i := 5) rfl))) (mvT hZ (hw _ (List.mem_of_getElem? (i := 6) rfl))) (by decide) (backOf (W := 1) (rm1_2 l Z a0 hw [] b_66 p0 p1 p2 p3 p4 b_65 k_65 h_66 n0 Zs E_b_66 F_flags_b_66 F_tsn_b_66 F_stream_b_66 F_streamSequence_b_66 F_payloadProtocol_b_66 F_payload_b_66 g_b_66 E_b_65 V_b_65 ne_b_65_b_66) hZ (hw _ (List.mem_of_getElem? (i := 6) rfl)) (hw _ (List.mem_of_getElem? (i := 3) rfl)) (by decide) (by decide)) (g := (mkF m 20 #[.val (.int p0), .val (.int p1), .val (.int p2), .val (.int p3), .val (.int p4), .val (.int p5), .val (.ref b_65), .unset, .unset, .unset, .unset] [(.ref b_65), (.int p4), (.int p3), (.int p2), (.int p1), (.int p0), (.ref b_66), (.ref b_66)])) rfl (by rw [hml]; rfl) (Steps.refl _) (a := b_66) (argsL := [(.int p0), (.int p1), (.int p2), (.int p3), (.int p4), (.ref b_65)]) (rest := [(.ref b_66)]) (lenOf pd_1 rfl) rfl (by show 2 * 0 + _ ≤ _; exact Nat.le_of_eq rfl) (hb hby at_20) (fun _ _ => ⟨rfl, e_66, (by decide : 2 + 1 ≤ _), (by decide : 8 + 2 ≤ _)⟩)
    dsimp only [Pt.U, Pt.locs, Pt.cells, Pt.slots] at X_67 l_67 y_67 z_67 st_67 hQ_67
    subst l_67 y_67 z_67
    obtain ⟨h_67, e_67⟩ : ∃ z, T_67.heap = z := ⟨_, rfl⟩
    rw [e_67] at hQ_67
    obtain ⟨Nq_67, K_67, n_67_F_flags_b_66, rfl⟩ := hQ_67
    replace Nf := Fr.app Nf Nq_67
    replace V_b_65 := V_b_65.keep K_67 (ninS ne_b_65_b_66 nin0)
    replace E_b_65 := E_b_65.keep K_67
    replace E_b_66 := E_b_66.keep K_67
    clear F_flags_b_66
    clear F_tsn_b_66
    clear F_stream_b_66
    clear F_streamSequence_b_66
    clear F_payloadProtocol_b_66
    clear F_payload_b_66
    replace lt_b_65 := Nat.lt_of_lt_of_le lt_b_65 K_67.1
    replace lt_b_66 := Nat.lt_of_lt_of_le lt_b_66 K_67.1
    replace Zs := Nat.le_trans Zs K_67.1
    have F_flags_b_66 := n_67_F_flags_b_66
    refine Win.come st_67 ?_
    clear st_67 Nq_67 X_66 e_66 K_67
    show Win p.tables e below _ (T_67.setTop (mkF m 23 #[.val (.int p0), .val (.int p1), .val (.int p2), .val (.int p3), .val (.int p4), .val (.int p5), .val (.ref b_65), .unset, .unset, .unset, .unset] [(.ref b_66)]))
    refine s_astore (pc' := 25) (l' := #[.val (.int p0), .val (.int p1), .val (.int p2), .val (.int p3), .val (.int p4), .val (.int p5), .val (.ref b_65), .val (.ref b_66), .unset, .unset, .unset]) X_67.here hx (hb hby at_23) rfl rfl rfl ?_
    obtain ⟨T_68, h_68, X_68, e_68, Ex_68, A_68, D_68, -, st_68⟩ := newO X_67 hx hZ hown (hw _ (List.mem_of_getElem? (i := 1) rfl)) (hw _ (List.mem_of_getElem? (i := 2) rfl)) (hw _ (List.mem_of_getElem? (i := 3) rfl)) e_67 (g := (mkF m 25 #[.val (.int p0), .val (.int p1), .val (.int p2), .val (.int p3), .val (.int p4), .val (.int p5), .val (.ref b_65), .val (.ref b_66), .unset, .unset, .unset] [])) rfl (hb hby at_25) (by decide) (by decide)
    obtain ⟨b_68, g_68⟩ : ∃ z, z = h_67.size := ⟨_, rfl⟩
    have ne_b_65_b_68 : b_65 ≠ b_68 := Nat.ne_of_lt (Nat.lt_of_lt_of_le lt_b_65 (Nat.le_of_eq g_68.symm))
    have ne_b_66_b_68 : b_66 ≠ b_68 := Nat.ne_of_lt (Nat.lt_of_lt_of_le lt_b_66 (Nat.le_of_eq g_68.symm))
    have g_b_68 : n0 ≤ b_68 := Nat.le_trans Zs (Nat.le_of_eq g_68.symm)
    rw [← g_68] at A_68 D_68 st_68
    replace V_b_65 := V_b_65.ext Ex_68
    replace E_b_65 := E_b_65.ext Ex_68
    replace E_b_66 := E_b_66.ext Ex_68
    replace F_flags_b_66 := F_flags_b_66.ext Ex_68
    replace lt_b_65 := Nat.lt_of_lt_of_le lt_b_65 Ex_68.1
    replace lt_b_66 := Nat.lt_of_lt_of_le lt_b_66 Ex_68.1
    replace Zs := Nat.le_trans Zs Ex_68.1
    have E_b_68 := A_68
    have lt_b_68 := E_b_68.lt
    have F_flags_b_68 : Fld Z h_68 b_68 "com/example/pointcode/pointcode/sctp/DataChunk" "flags" "I" (.int (0 : Int32)) := D_68 (Or.inr (hw _ (List.mem_of_getElem? (i := 25) rfl))) (ty := .int) (by decide)
    have F_tsn_b_68 : Fld Z h_68 b_68 "com/example/pointcode/pointcode/sctp/DataChunk" "tsn" "I" (.int (0 : Int32)) := D_68 (Or.inr (hw _ (List.mem_of_getElem? (i := 27) rfl))) (ty := .int) (by decide)
    have F_stream_b_68 : Fld Z h_68 b_68 "com/example/pointcode/pointcode/sctp/DataChunk" "stream" "I" (.int (0 : Int32)) := D_68 (Or.inr (hw _ (List.mem_of_getElem? (i := 29) rfl))) (ty := .int) (by decide)
    have F_streamSequence_b_68 : Fld Z h_68 b_68 "com/example/pointcode/pointcode/sctp/DataChunk" "streamSequence" "I" (.int (0 : Int32)) := D_68 (Or.inr (hw _ (List.mem_of_getElem? (i := 31) rfl))) (ty := .int) (by decide)
    have F_payloadProtocol_b_68 : Fld Z h_68 b_68 "com/example/pointcode/pointcode/sctp/DataChunk" "payloadProtocol" "I" (.int (0 : Int32)) := D_68 (Or.inr (hw _ (List.mem_of_getElem? (i := 33) rfl))) (ty := .int) (by decide)
    have F_payload_b_68 : Fld Z h_68 b_68 "com/example/pointcode/pointcode/sctp/DataChunk" "payload" "[B" .null := D_68 (Or.inr (hw _ (List.mem_of_getElem? (i := 35) rfl))) (ty := (.array .byte)) (by decide)
    refine Win.go st_68 ?_
    clear st_68 Ex_68 A_68 D_68 g_68 X_67 e_67
    show Win p.tables e below _ (T_68.setTop (mkF m 28 #[.val (.int p0), .val (.int p1), .val (.int p2), .val (.int p3), .val (.int p4), .val (.int p5), .val (.ref b_65), .val (.ref b_66), .unset, .unset, .unset] [(.ref b_68)]))
    refine s_dup (pc' := 29) X_68.here hx (hb hby at_28) rfl rfl ?_
    refine s_iloadN (pc' := 30) X_68.here hx (hb hby at_29) rfl rfl ?_
    refine s_iconst (pc' := 31) (z := (2 : Int32)) X_68.here hx (hb hby at_30) rfl rfl ?_
    refine s_ior (pc' := 32) X_68.here hx (hb hby at_31) rfl ?_
    refine s_iloadN (pc' := 33) X_68.here hx (hb hby at_32) rfl rfl ?_
    refine s_iloadN (pc' := 34) X_68.here hx (hb hby at_33) rfl rfl ?_
    refine s_iloadN (pc' := 35) X_68.here hx (hb hby at_34) rfl rfl ?_
    refine s_iload (pc' := 37) X_68.here hx (hb hby at_35) rfl rfl ?_
    refine s_aload (pc' := 39) X_68.here hx (hb hby at_37) rfl rfl rfl ?_
    obtain ⟨_, _, ⟨T_69, L_69, k_69, n_69⟩, -, X_69, ⟨Lc_69, hQ_69, l_69, y_69, z_69⟩, st_69⟩ := X_68.specialBack hx (y := (⟨"com/example/pointcode/pointcode/sctp/DataChunk", "<init>", "(IIIII[B)V"⟩ : MethodName)) rfl hown (mvT hZ (hw _ (List.mem_of_getElem? (i := 4) rfl))) (mvT hZ (hw _ (List.mem_of_getElem? (i := 5) rfl))) (mvT hZ (hw _ (List.mem_of_getElem? (i := 6) rfl))) (by decide) (backOf (W := 1) (rm1_2 l Z a0 hw [] b_68 (p0 ||| (2 : Int32)) p1 p2 p3 p4 b_65 k_65 h_68 n0 Zs E_b_68 F_flags_b_68 F_tsn_b_68 F_stream_b_68 F_streamSequence_b_68 F_payloadProtocol_b_68 F_payload_b_68 g_b_68 E_b_65 V_b_65 ne_b_65_b_68) hZ (hw _ (List.mem_of_getElem? (i := 6) rfl)) (hw _ (List.mem_of_getElem? (i := 3) rfl)) (by decide) (by decide)) (g := (mkF m 39 #[.val (.int p0), .val (.int p1), .val (.int p2), .val (.int p3), .val (.int p4), .val (.int p5), .val (.ref b_65), .val (.ref b_66), .unset, .unset, .unset] [(.ref b_65), (.int p4), (.int p3), (.int p2), (.int p1), (.int (p0 ||| (2 : Int32))), (.ref b_68), (.ref b_68)])) rfl (by rw [hml]; rfl) (Steps.refl _) (a := b_68) (argsL := [(.int (p0 ||| (2 : Int32))), (.int p1), (.int p2), (.int p3), (.int p4), (.ref b_65)]) (rest := [(.ref b_68)]) (lenOf pd_1 rfl) rfl (by show 2 * 0 + _ ≤ _; exact Nat.le_of_eq rfl) (hb hby at_39) (fun _ _ => ⟨rfl, e_68, (by decide : 4 + 1 ≤ _), (by decide : 16 + 2 ≤ _)⟩)
    dsimp only [Pt.U, Pt.locs, Pt.cells, Pt.slots] at X_69 l_69 y_69 z_69 st_69 hQ_69
    subst l_69 y_69 z_69
    obtain ⟨h_69, e_69⟩ : ∃ z, T_69.heap = z := ⟨_, rfl⟩
    rw [e_69] at hQ_69
    obtain ⟨Nq_69, K_69, n_69_F_flags_b_68, rfl⟩ := hQ_69
    replace Nf := Fr.app Nf Nq_69
    replace V_b_65 := V_b_65.keep K_69 (ninS ne_b_65_b_68 nin0)
    replace E_b_65 := E_b_65.keep K_69
    replace E_b_66 := E_b_66.keep K_69
    replace F_flags_b_66 := F_flags_b_66.keep K_69 (ninS ne_b_66_b_68 nin0)
    replace E_b_68 := E_b_68.keep K_69
    clear F_flags_b_68
    clear F_tsn_b_68
    clear F_stream_b_68
    clear F_streamSequence_b_68
    clear F_payloadProtocol_b_68
    clear F_payload_b_68
    replace lt_b_65 := Nat.lt_of_lt_of_le lt_b_65 K_69.1
    replace lt_b_66 := Nat.lt_of_lt_of_le lt_b_66 K_69.1
    replace lt_b_68 := Nat.lt_of_lt_of_le lt_b_68 K_69.1
    replace Zs := Nat.le_trans Zs K_69.1
    have F_flags_b_68 := n_69_F_flags_b_68
    refine Win.come st_69 ?_
    clear st_69 Nq_69 X_68 e_68 K_69
    show Win p.tables e below _ (T_69.setTop (mkF m 42 #[.val (.int p0), .val (.int p1), .val (.int p2), .val (.int p3), .val (.int p4), .val (.int p5), .val (.ref b_65), .val (.ref b_66), .unset, .unset, .unset] [(.ref b_68)]))
    refine s_astore (pc' := 44) (l' := #[.val (.int p0), .val (.int p1), .val (.int p2), .val (.int p3), .val (.int p4), .val (.int p5), .val (.ref b_65), .val (.ref b_66), .val (.ref b_68), .unset, .unset]) X_69.here hx (hb hby at_42) rfl rfl rfl ?_
    obtain ⟨T_70, h_70, X_70, e_70, Ex_70, A_70, D_70, -, st_70⟩ := newO X_69 hx hZ hown (hw _ (List.mem_of_getElem? (i := 1) rfl)) (hw _ (List.mem_of_getElem? (i := 2) rfl)) (hw _ (List.mem_of_getElem? (i := 3) rfl)) e_69 (g := (mkF m 44 #[.val (.int p0), .val (.int p1), .val (.int p2), .val (.int p3), .val (.int p4), .val (.int p5), .val (.ref b_65), .val (.ref b_66), .val (.ref b_68), .unset, .unset] [])) rfl (hb hby at_44) (by decide) (by decide)
    obtain ⟨b_70, g_70⟩ : ∃ z, z = h_69.size := ⟨_, rfl⟩
    have ne_b_65_b_70 : b_65 ≠ b_70 := Nat.ne_of_lt (Nat.lt_of_lt_of_le lt_b_65 (Nat.le_of_eq g_70.symm))
    have ne_b_66_b_70 : b_66 ≠ b_70 := Nat.ne_of_lt (Nat.lt_of_lt_of_le lt_b_66 (Nat.le_of_eq g_70.symm))
    have ne_b_68_b_70 : b_68 ≠ b_70 := Nat.ne_of_lt (Nat.lt_of_lt_of_le lt_b_68 (Nat.le_of_eq g_70.symm))
    have g_b_70 : n0 ≤ b_70 := Nat.le_trans Zs (Nat.le_of_eq g_70.symm)
    rw [← g_70] at A_70 D_70 st_70
    replace V_b_65 := V_b_65.ext Ex_70
    replace E_b_65 := E_b_65.ext Ex_70
    replace E_b_66 := E_b_66.ext Ex_70
    replace F_flags_b_66 := F_flags_b_66.ext Ex_70
    replace E_b_68 := E_b_68.ext Ex_70
    replace F_flags_b_68 := F_flags_b_68.ext Ex_70
    replace lt_b_65 := Nat.lt_of_lt_of_le lt_b_65 Ex_70.1
    replace lt_b_66 := Nat.lt_of_lt_of_le lt_b_66 Ex_70.1
    replace lt_b_68 := Nat.lt_of_lt_of_le lt_b_68 Ex_70.1
    replace Zs := Nat.le_trans Zs Ex_70.1
    have E_b_70 := A_70
    have lt_b_70 := E_b_70.lt
    have F_flags_b_70 : Fld Z h_70 b_70 "com/example/pointcode/pointcode/sctp/DataChunk" "flags" "I" (.int (0 : Int32)) := D_70 (Or.inr (hw _ (List.mem_of_getElem? (i := 25) rfl))) (ty := .int) (by decide)
    have F_tsn_b_70 : Fld Z h_70 b_70 "com/example/pointcode/pointcode/sctp/DataChunk" "tsn" "I" (.int (0 : Int32)) := D_70 (Or.inr (hw _ (List.mem_of_getElem? (i := 27) rfl))) (ty := .int) (by decide)
    have F_stream_b_70 : Fld Z h_70 b_70 "com/example/pointcode/pointcode/sctp/DataChunk" "stream" "I" (.int (0 : Int32)) := D_70 (Or.inr (hw _ (List.mem_of_getElem? (i := 29) rfl))) (ty := .int) (by decide)
    have F_streamSequence_b_70 : Fld Z h_70 b_70 "com/example/pointcode/pointcode/sctp/DataChunk" "streamSequence" "I" (.int (0 : Int32)) := D_70 (Or.inr (hw _ (List.mem_of_getElem? (i := 31) rfl))) (ty := .int) (by decide)
    have F_payloadProtocol_b_70 : Fld Z h_70 b_70 "com/example/pointcode/pointcode/sctp/DataChunk" "payloadProtocol" "I" (.int (0 : Int32)) := D_70 (Or.inr (hw _ (List.mem_of_getElem? (i := 33) rfl))) (ty := .int) (by decide)
    have F_payload_b_70 : Fld Z h_70 b_70 "com/example/pointcode/pointcode/sctp/DataChunk" "payload" "[B" .null := D_70 (Or.inr (hw _ (List.mem_of_getElem? (i := 35) rfl))) (ty := (.array .byte)) (by decide)
    refine Win.go st_70 ?_
    clear st_70 Ex_70 A_70 D_70 g_70 X_69 e_69
    show Win p.tables e below _ (T_70.setTop (mkF m 47 #[.val (.int p0), .val (.int p1), .val (.int p2), .val (.int p3), .val (.int p4), .val (.int p5), .val (.ref b_65), .val (.ref b_66), .val (.ref b_68), .unset, .unset] [(.ref b_70)]))
    refine s_dup (pc' := 48) X_70.here hx (hb hby at_47) rfl rfl ?_
    refine s_iloadN (pc' := 49) X_70.here hx (hb hby at_48) rfl rfl ?_
    refine s_bipush (pc' := 51) (z := (-3 : Int32)) X_70.here hx (hb hby at_49) rfl rfl ?_
    refine s_iand (pc' := 52) X_70.here hx (hb hby at_51) rfl ?_
    refine s_iloadN (pc' := 53) X_70.here hx (hb hby at_52) rfl rfl ?_
    refine s_iloadN (pc' := 54) X_70.here hx (hb hby at_53) rfl rfl ?_
    refine s_iloadN (pc' := 55) X_70.here hx (hb hby at_54) rfl rfl ?_
    refine s_iload (pc' := 57) X_70.here hx (hb hby at_55) rfl rfl ?_
    refine s_aload (pc' := 59) X_70.here hx (hb hby at_57) rfl rfl rfl ?_
    obtain ⟨_, _, ⟨T_71, L_71, k_71, n_71⟩, -, X_71, ⟨Lc_71, hQ_71, l_71, y_71, z_71⟩, st_71⟩ := X_70.specialBack hx (y := (⟨"com/example/pointcode/pointcode/sctp/DataChunk", "<init>", "(IIIII[B)V"⟩ : MethodName)) rfl hown (mvT hZ (hw _ (List.mem_of_getElem? (i := 4) rfl))) (mvT hZ (hw _ (List.mem_of_getElem? (i := 5) rfl))) (mvT hZ (hw _ (List.mem_of_getElem? (i := 6) rfl))) (by decide) (backOf (W := 1) (rm1_2 l Z a0 hw [] b_70 (p0 &&& (-3 : Int32)) p1 p2 p3 p4 b_65 k_65 h_70 n0 Zs E_b_70 F_flags_b_70 F_tsn_b_70 F_stream_b_70 F_streamSequence_b_70 F_payloadProtocol_b_70 F_payload_b_70 g_b_70 E_b_65 V_b_65 ne_b_65_b_70) hZ (hw _ (List.mem_of_getElem? (i := 6) rfl)) (hw _ (List.mem_of_getElem? (i := 3) rfl)) (by decide) (by decide)) (g := (mkF m 59 #[.val (.int p0), .val (.int p1), .val (.int p2), .val (.int p3), .val (.int p4), .val (.int p5), .val (.ref b_65), .val (.ref b_66), .val (.ref b_68), .unset, .unset] [(.ref b_65), (.int p4), (.int p3), (.int p2), (.int p1), (.int (p0 &&& (-3 : Int32))), (.ref b_70), (.ref b_70)])) rfl (by rw [hml]; rfl) (Steps.refl _) (a := b_70) (argsL := [(.int (p0 &&& (-3 : Int32))), (.int p1), (.int p2), (.int p3), (.int p4), (.ref b_65)]) (rest := [(.ref b_70)]) (lenOf pd_1 rfl) rfl (by show 2 * 0 + _ ≤ _; exact Nat.le_of_eq rfl) (hb hby at_59) (fun _ _ => ⟨rfl, e_70, (by decide : 6 + 1 ≤ _), (by decide : 24 + 2 ≤ _)⟩)
    dsimp only [Pt.U, Pt.locs, Pt.cells, Pt.slots] at X_71 l_71 y_71 z_71 st_71 hQ_71
    subst l_71 y_71 z_71
    obtain ⟨h_71, e_71⟩ : ∃ z, T_71.heap = z := ⟨_, rfl⟩
    rw [e_71] at hQ_71
    obtain ⟨Nq_71, K_71, n_71_F_flags_b_70, rfl⟩ := hQ_71
    replace Nf := Fr.app Nf Nq_71
    replace V_b_65 := V_b_65.keep K_71 (ninS ne_b_65_b_70 nin0)
    replace E_b_65 := E_b_65.keep K_71
    replace E_b_66 := E_b_66.keep K_71
    replace F_flags_b_66 := F_flags_b_66.keep K_71 (ninS ne_b_66_b_70 nin0)
    replace E_b_68 := E_b_68.keep K_71
    replace F_flags_b_68 := F_flags_b_68.keep K_71 (ninS ne_b_68_b_70 nin0)
    replace E_b_70 := E_b_70.keep K_71
    clear F_flags_b_70
    clear F_tsn_b_70
    clear F_stream_b_70
    clear F_streamSequence_b_70
    clear F_payloadProtocol_b_70
    clear F_payload_b_70
    replace lt_b_65 := Nat.lt_of_lt_of_le lt_b_65 K_71.1
    replace lt_b_66 := Nat.lt_of_lt_of_le lt_b_66 K_71.1
    replace lt_b_68 := Nat.lt_of_lt_of_le lt_b_68 K_71.1
    replace lt_b_70 := Nat.lt_of_lt_of_le lt_b_70 K_71.1
    replace Zs := Nat.le_trans Zs K_71.1
    have F_flags_b_70 := n_71_F_flags_b_70
    refine Win.come st_71 ?_
    clear st_71 Nq_71 X_70 e_70 K_71
    show Win p.tables e below _ (T_71.setTop (mkF m 62 #[.val (.int p0), .val (.int p1), .val (.int p2), .val (.int p3), .val (.int p4), .val (.int p5), .val (.ref b_65), .val (.ref b_66), .val (.ref b_68), .unset, .unset] [(.ref b_70)]))
    refine s_astore (pc' := 64) (l' := #[.val (.int p0), .val (.int p1), .val (.int p2), .val (.int p3), .val (.int p4), .val (.int p5), .val (.ref b_65), .val (.ref b_66), .val (.ref b_68), .val (.ref b_70), .unset]) X_71.here hx (hb hby at_62) rfl rfl rfl ?_
    refine s_iloadN (pc' := 65) X_71.here hx (hb hby at_64) rfl rfl ?_
    refine s_iconst (pc' := 66) (z := (1 : Int32)) X_71.here hx (hb hby at_65) rfl rfl ?_
    refine Win.go (fun _ k => XT.iushr X_71.here hx rfl (hb hby at_66) rfl k) ?_
    show Win p.tables e below _ (T_71.setTop (mkF m 67 #[.val (.int p0), .val (.int p1), .val (.int p2), .val (.int p3), .val (.int p4), .val (.int p5), .val (.ref b_65), .val (.ref b_66), .val (.ref b_68), .val (.ref b_70), .unset] [(.int (XT.ushr p0 (1 : Int32)))]))
    refine s_iconst (pc' := 68) (z := (1 : Int32)) X_71.here hx (hb hby at_67) rfl rfl ?_
    refine s_iand (pc' := 69) X_71.here hx (hb hby at_68) rfl ?_
    refine s_iconst (pc' := 70) (z := (1 : Int32)) X_71.here hx (hb hby at_69) rfl rfl ?_
    by_cases hc70 : (((XT.ushr p0 (1 : Int32)) &&& (1 : Int32))).toInt = (1 : Int)
    · skip
      refine s_icmpNo (pc' := 73) X_71.here hx (hb hby at_70) rfl (teqI (x := ((XT.ushr p0 (1 : Int32)) &&& (1 : Int32))) (y := (1 : Int32)) hc70).2 ?_
      refine s_iconst (pc' := 74) (z := (1 : Int32)) X_71.here hx (hb hby at_73) rfl rfl ?_
      refine s_goto (pc' := 78) X_71.here hx (hb hby at_74) (by decide) (by decide) ?_
      refine s_istore (pc' := 80) (l' := #[.val (.int p0), .val (.int p1), .val (.int p2), .val (.int p3), .val (.int p4), .val (.int p5), .val (.ref b_65), .val (.ref b_66), .val (.ref b_68), .val (.ref b_70), .val (.int (1 : Int32))]) X_71.here hx (hb hby at_78) rfl rfl ?_
      refine s_aload (pc' := 82) X_71.here hx (hb hby at_80) rfl rfl rfl ?_
      obtain ⟨cq_72, kq_72, q_72a, q_72b, q_72c⟩ := isOf hZ e_71 E_b_66
      obtain ⟨_, _, ⟨T_72, L_72, k_72, n_72⟩, -, X_72, ⟨Lc_72, hQ_72, l_72, y_72, z_72⟩, st_72⟩ := X_71.virtualBack hx (y := (⟨"com/example/pointcode/pointcode/sctp/DataChunk", "isBeginning", "()Z"⟩ : MethodName)) (z := (⟨"com/example/pointcode/pointcode/sctp/DataChunk", "isBeginning", "()Z"⟩ : MethodName)) hown (mvT hZ (hw _ (List.mem_of_getElem? (i := 36) rfl))) (mvT hZ (hw _ (List.mem_of_getElem? (i := 37) rfl))) (notFace_of_selects (args := #[]) (mvT hZ (hw _ (List.mem_of_getElem? (i := 39) rfl)))) (mvT hZ (hw _ (List.mem_of_getElem? (i := 39) rfl))) (mvT hZ (hw _ (List.mem_of_getElem? (i := 38) rfl))) (by decide) (backOf (W := 0) (rm4 l Z a0 hw [] b_66 p0 h_71 n0 Zs F_flags_b_66) hZ (hw _ (List.mem_of_getElem? (i := 40) rfl)) (hw _ (List.mem_of_getElem? (i := 3) rfl)) (by decide) (by decide)) q_72a q_72c (g := (mkF m 82 #[.val (.int p0), .val (.int p1), .val (.int p2), .val (.int p3), .val (.int p4), .val (.int p5), .val (.ref b_65), .val (.ref b_66), .val (.ref b_68), .val (.ref b_70), .val (.int (1 : Int32))] [(.ref b_66)])) rfl (by rw [hml]; rfl) (Steps.refl _) (argsL := []) (rest := []) (lenOf pd_2 rfl) rfl (by show 2 * 0 + _ ≤ _; exact Nat.le_of_eq rfl) (hb hby at_82) (fun _ _ => ⟨rfl, e_71, (by decide : 7 + 0 ≤ _), (by decide : 26 + 0 ≤ _)⟩)
      dsimp only [Pt.U, Pt.locs, Pt.cells, Pt.slots] at X_72 l_72 y_72 z_72 st_72 hQ_72
      subst l_72 y_72 z_72
      obtain ⟨Nq_72, e_72, r1, rfl, hr1⟩ := hQ_72
      replace Nf := Fr.app Nf Nq_72
      refine Win.come st_72 ?_
      clear st_72 Nq_72 X_71 e_71
      show Win p.tables e below _ (T_72.setTop (mkF m 85 #[.val (.int p0), .val (.int p1), .val (.int p2), .val (.int p3), .val (.int p4), .val (.int p5), .val (.ref b_65), .val (.ref b_66), .val (.ref b_68), .val (.ref b_70), .val (.int (1 : Int32))] [(.int r1)]))
      refine s_iload (pc' := 87) X_72.here hx (hb hby at_85) rfl rfl ?_
      by_cases hc87 : (r1).toInt = (1 : Int)
      · skip
        refine s_icmpNo (pc' := 90) X_72.here hx (hb hby at_87) rfl (teqI (x := r1) (y := (1 : Int32)) hc87).2 ?_
        refine s_aload (pc' := 92) X_72.here hx (hb hby at_90) rfl rfl rfl ?_
        obtain ⟨cq_73, kq_73, q_73a, q_73b, q_73c⟩ := isOf hZ e_72 E_b_68
        obtain ⟨_, _, ⟨T_73, L_73, k_73, n_73⟩, -, X_73, ⟨Lc_73, hQ_73, l_73, y_73, z_73⟩, st_73⟩ := X_72.virtualBack hx (y := (⟨"com/example/pointcode/pointcode/sctp/DataChunk", "isBeginning", "()Z"⟩ : MethodName)) (z := (⟨"com/example/pointcode/pointcode/sctp/DataChunk", "isBeginning", "()Z"⟩ : MethodName)) hown (mvT hZ (hw _ (List.mem_of_getElem? (i := 36) rfl))) (mvT hZ (hw _ (List.mem_of_getElem? (i := 37) rfl))) (notFace_of_selects (args := #[]) (mvT hZ (hw _ (List.mem_of_getElem? (i := 39) rfl)))) (mvT hZ (hw _ (List.mem_of_getElem? (i := 39) rfl))) (mvT hZ (hw _ (List.mem_of_getElem? (i := 38) rfl))) (by decide) (backOf (W := 0) (rm4 l Z a0 hw [] b_68 (p0 ||| (2 : Int32)) h_71 n0 Zs F_flags_b_68) hZ (hw _ (List.mem_of_getElem? (i := 40) rfl)) (hw _ (List.mem_of_getElem? (i := 3) rfl)) (by decide) (by decide)) q_73a q_73c (g := (mkF m 92 #[.val (.int p0), .val (.int p1), .val (.int p2), .val (.int p3), .val (.int p4), .val (.int p5), .val (.ref b_65), .val (.ref b_66), .val (.ref b_68), .val (.ref b_70), .val (.int (1 : Int32))] [(.ref b_68)])) rfl (by rw [hml]; rfl) (Steps.refl _) (argsL := []) (rest := []) (lenOf pd_2 rfl) rfl (by show 2 * 0 + _ ≤ _; exact Nat.le_of_eq rfl) (hb hby at_92) (fun _ _ => ⟨rfl, e_72, (by decide : 7 + 0 ≤ _), (by decide : 26 + 0 ≤ _)⟩)
        dsimp only [Pt.U, Pt.locs, Pt.cells, Pt.slots] at X_73 l_73 y_73 z_73 st_73 hQ_73
        subst l_73 y_73 z_73
        obtain ⟨Nq_73, e_73, r2, rfl, hr2⟩ := hQ_73
        replace Nf := Fr.app Nf Nq_73
        refine Win.come st_73 ?_
        clear st_73 Nq_73 X_72 e_72
        show Win p.tables e below _ (T_73.setTop (mkF m 95 #[.val (.int p0), .val (.int p1), .val (.int p2), .val (.int p3), .val (.int p4), .val (.int p5), .val (.ref b_65), .val (.ref b_66), .val (.ref b_68), .val (.ref b_70), .val (.int (1 : Int32))] [(.int r2)]))
        by_cases hc95 : (r2).toInt = (0 : Int)
        · skip
          refine s_ifYes (pc' := 110) X_73.here hx (hb hby at_95) ((if0 _ _).trans (teqI (x := r2) (y := (0 : Int32)) hc95).1) (by decide) (by decide) ?_
          refine s_iconst (pc' := 111) (z := (0 : Int32)) X_73.here hx (hb hby at_110) rfl rfl ?_
          exfalso
          omega
        · skip
          refine s_ifNo (pc' := 98) X_73.here hx (hb hby at_95) rfl ((if0 _ _).trans (feqI (x := r2) (y := (0 : Int32)) hc95).1) ?_
          refine s_aload (pc' := 100) X_73.here hx (hb hby at_98) rfl rfl rfl ?_
          obtain ⟨cq_74, kq_74, q_74a, q_74b, q_74c⟩ := isOf hZ e_73 E_b_70
          obtain ⟨_, _, ⟨T_74, L_74, k_74, n_74⟩, -, X_74, ⟨Lc_74, hQ_74, l_74, y_74, z_74⟩, st_74⟩ := X_73.virtualBack hx (y := (⟨"com/example/pointcode/pointcode/sctp/DataChunk", "isBeginning", "()Z"⟩ : MethodName)) (z := (⟨"com/example/pointcode/pointcode/sctp/DataChunk", "isBeginning", "()Z"⟩ : MethodName)) hown (mvT hZ (hw _ (List.mem_of_getElem? (i := 36) rfl))) (mvT hZ (hw _ (List.mem_of_getElem? (i := 37) rfl))) (notFace_of_selects (args := #[]) (mvT hZ (hw _ (List.mem_of_getElem? (i := 39) rfl)))) (mvT hZ (hw _ (List.mem_of_getElem? (i := 39) rfl))) (mvT hZ (hw _ (List.mem_of_getElem? (i := 38) rfl))) (by decide) (backOf (W := 0) (rm4 l Z a0 hw [] b_70 (p0 &&& (-3 : Int32)) h_71 n0 Zs F_flags_b_70) hZ (hw _ (List.mem_of_getElem? (i := 40) rfl)) (hw _ (List.mem_of_getElem? (i := 3) rfl)) (by decide) (by decide)) q_74a q_74c (g := (mkF m 100 #[.val (.int p0), .val (.int p1), .val (.int p2), .val (.int p3), .val (.int p4), .val (.int p5), .val (.ref b_65), .val (.ref b_66), .val (.ref b_68), .val (.ref b_70), .val (.int (1 : Int32))] [(.ref b_70)])) rfl (by rw [hml]; rfl) (Steps.refl _) (argsL := []) (rest := []) (lenOf pd_2 rfl) rfl (by show 2 * 0 + _ ≤ _; exact Nat.le_of_eq rfl) (hb hby at_100) (fun _ _ => ⟨rfl, e_73, (by decide : 7 + 0 ≤ _), (by decide : 26 + 0 ≤ _)⟩)
          dsimp only [Pt.U, Pt.locs, Pt.cells, Pt.slots] at X_74 l_74 y_74 z_74 st_74 hQ_74
          subst l_74 y_74 z_74
          obtain ⟨Nq_74, e_74, r3, rfl, hr3⟩ := hQ_74
          replace Nf := Fr.app Nf Nq_74
          refine Win.come st_74 ?_
          clear st_74 Nq_74 X_73 e_73
          show Win p.tables e below _ (T_74.setTop (mkF m 103 #[.val (.int p0), .val (.int p1), .val (.int p2), .val (.int p3), .val (.int p4), .val (.int p5), .val (.ref b_65), .val (.ref b_66), .val (.ref b_68), .val (.ref b_70), .val (.int (1 : Int32))] [(.int r3)]))
          by_cases hc103 : (r3).toInt = (0 : Int)
          · skip
            refine s_ifNo (pc' := 106) X_74.here hx (hb hby at_103) rfl ((if0 _ _).trans (teqI (x := r3) (y := (0 : Int32)) hc103).2) ?_
            refine s_iconst (pc' := 107) (z := (1 : Int32)) X_74.here hx (hb hby at_106) rfl rfl ?_
            refine s_goto (pc' := 111) X_74.here hx (hb hby at_107) (by decide) (by decide) ?_
            refine winN X_74 hx hlk e_74 (t := .boolean) Bd.returns (by simp) (hb hby at_111) (by decide) (by decide) (z' := 1) rfl ⟨Nf, rfl⟩
          · skip
            refine s_ifYes (pc' := 110) X_74.here hx (hb hby at_103) ((if0 _ _).trans (feqI (x := r3) (y := (0 : Int32)) hc103).2) (by decide) (by decide) ?_
            refine s_iconst (pc' := 111) (z := (0 : Int32)) X_74.here hx (hb hby at_110) rfl rfl ?_
            exfalso
            omega
      · skip
        refine s_icmpYes (pc' := 110) X_72.here hx (hb hby at_87) (feqI (x := r1) (y := (1 : Int32)) hc87).2 (by decide) (by decide) ?_
        refine s_iconst (pc' := 111) (z := (0 : Int32)) X_72.here hx (hb hby at_110) rfl rfl ?_
        exfalso
        omega
    · skip
      refine s_icmpYes (pc' := 77) X_71.here hx (hb hby at_70) (feqI (x := ((XT.ushr p0 (1 : Int32)) &&& (1 : Int32))) (y := (1 : Int32)) hc70).2 (by decide) (by decide) ?_
      refine s_iconst (pc' := 78) (z := (0 : Int32)) X_71.here hx (hb hby at_77) rfl rfl ?_
      refine s_istore (pc' := 80) (l' := #[.val (.int p0), .val (.int p1), .val (.int p2), .val (.int p3), .val (.int p4), .val (.int p5), .val (.ref b_65), .val (.ref b_66), .val (.ref b_68), .val (.ref b_70), .val (.int (0 : Int32))]) X_71.here hx (hb hby at_78) rfl rfl ?_
      refine s_aload (pc' := 82) X_71.here hx (hb hby at_80) rfl rfl rfl ?_
      obtain ⟨cq_75, kq_75, q_75a, q_75b, q_75c⟩ := isOf hZ e_71 E_b_66
      obtain ⟨_, _, ⟨T_75, L_75, k_75, n_75⟩, -, X_75, ⟨Lc_75, hQ_75, l_75, y_75, z_75⟩, st_75⟩ := X_71.virtualBack hx (y := (⟨"com/example/pointcode/pointcode/sctp/DataChunk", "isBeginning", "()Z"⟩ : MethodName)) (z := (⟨"com/example/pointcode/pointcode/sctp/DataChunk", "isBeginning", "()Z"⟩ : MethodName)) hown (mvT hZ (hw _ (List.mem_of_getElem? (i := 36) rfl))) (mvT hZ (hw _ (List.mem_of_getElem? (i := 37) rfl))) (notFace_of_selects (args := #[]) (mvT hZ (hw _ (List.mem_of_getElem? (i := 39) rfl)))) (mvT hZ (hw _ (List.mem_of_getElem? (i := 39) rfl))) (mvT hZ (hw _ (List.mem_of_getElem? (i := 38) rfl))) (by decide) (backOf (W := 0) (rm4 l Z a0 hw [] b_66 p0 h_71 n0 Zs F_flags_b_66) hZ (hw _ (List.mem_of_getElem? (i := 40) rfl)) (hw _ (List.mem_of_getElem? (i := 3) rfl)) (by decide) (by decide)) q_75a q_75c (g := (mkF m 82 #[.val (.int p0), .val (.int p1), .val (.int p2), .val (.int p3), .val (.int p4), .val (.int p5), .val (.ref b_65), .val (.ref b_66), .val (.ref b_68), .val (.ref b_70), .val (.int (0 : Int32))] [(.ref b_66)])) rfl (by rw [hml]; rfl) (Steps.refl _) (argsL := []) (rest := []) (lenOf pd_2 rfl) rfl (by show 2 * 0 + _ ≤ _; exact Nat.le_of_eq rfl) (hb hby at_82) (fun _ _ => ⟨rfl, e_71, (by decide : 7 + 0 ≤ _), (by decide : 26 + 0 ≤ _)⟩)
      dsimp only [Pt.U, Pt.locs, Pt.cells, Pt.slots] at X_75 l_75 y_75 z_75 st_75 hQ_75
      subst l_75 y_75 z_75
      obtain ⟨Nq_75, e_75, r1, rfl, hr1⟩ := hQ_75
      replace Nf := Fr.app Nf Nq_75
      refine Win.come st_75 ?_
      clear st_75 Nq_75 X_71 e_71
      show Win p.tables e below _ (T_75.setTop (mkF m 85 #[.val (.int p0), .val (.int p1), .val (.int p2), .val (.int p3), .val (.int p4), .val (.int p5), .val (.ref b_65), .val (.ref b_66), .val (.ref b_68), .val (.ref b_70), .val (.int (0 : Int32))] [(.int r1)]))
      refine s_iload (pc' := 87) X_75.here hx (hb hby at_85) rfl rfl ?_
      by_cases hc87 : (r1).toInt = (0 : Int)
      · skip
        refine s_icmpNo (pc' := 90) X_75.here hx (hb hby at_87) rfl (teqI (x := r1) (y := (0 : Int32)) hc87).2 ?_
        refine s_aload (pc' := 92) X_75.here hx (hb hby at_90) rfl rfl rfl ?_
        obtain ⟨cq_76, kq_76, q_76a, q_76b, q_76c⟩ := isOf hZ e_75 E_b_68
        obtain ⟨_, _, ⟨T_76, L_76, k_76, n_76⟩, -, X_76, ⟨Lc_76, hQ_76, l_76, y_76, z_76⟩, st_76⟩ := X_75.virtualBack hx (y := (⟨"com/example/pointcode/pointcode/sctp/DataChunk", "isBeginning", "()Z"⟩ : MethodName)) (z := (⟨"com/example/pointcode/pointcode/sctp/DataChunk", "isBeginning", "()Z"⟩ : MethodName)) hown (mvT hZ (hw _ (List.mem_of_getElem? (i := 36) rfl))) (mvT hZ (hw _ (List.mem_of_getElem? (i := 37) rfl))) (notFace_of_selects (args := #[]) (mvT hZ (hw _ (List.mem_of_getElem? (i := 39) rfl)))) (mvT hZ (hw _ (List.mem_of_getElem? (i := 39) rfl))) (mvT hZ (hw _ (List.mem_of_getElem? (i := 38) rfl))) (by decide) (backOf (W := 0) (rm4 l Z a0 hw [] b_68 (p0 ||| (2 : Int32)) h_71 n0 Zs F_flags_b_68) hZ (hw _ (List.mem_of_getElem? (i := 40) rfl)) (hw _ (List.mem_of_getElem? (i := 3) rfl)) (by decide) (by decide)) q_76a q_76c (g := (mkF m 92 #[.val (.int p0), .val (.int p1), .val (.int p2), .val (.int p3), .val (.int p4), .val (.int p5), .val (.ref b_65), .val (.ref b_66), .val (.ref b_68), .val (.ref b_70), .val (.int (0 : Int32))] [(.ref b_68)])) rfl (by rw [hml]; rfl) (Steps.refl _) (argsL := []) (rest := []) (lenOf pd_2 rfl) rfl (by show 2 * 0 + _ ≤ _; exact Nat.le_of_eq rfl) (hb hby at_92) (fun _ _ => ⟨rfl, e_75, (by decide : 7 + 0 ≤ _), (by decide : 26 + 0 ≤ _)⟩)
        dsimp only [Pt.U, Pt.locs, Pt.cells, Pt.slots] at X_76 l_76 y_76 z_76 st_76 hQ_76
        subst l_76 y_76 z_76
        obtain ⟨Nq_76, e_76, r2, rfl, hr2⟩ := hQ_76
        replace Nf := Fr.app Nf Nq_76
        refine Win.come st_76 ?_
        clear st_76 Nq_76 X_75 e_75
        show Win p.tables e below _ (T_76.setTop (mkF m 95 #[.val (.int p0), .val (.int p1), .val (.int p2), .val (.int p3), .val (.int p4), .val (.int p5), .val (.ref b_65), .val (.ref b_66), .val (.ref b_68), .val (.ref b_70), .val (.int (0 : Int32))] [(.int r2)]))
        by_cases hc95 : (r2).toInt = (0 : Int)
        · skip
          refine s_ifYes (pc' := 110) X_76.here hx (hb hby at_95) ((if0 _ _).trans (teqI (x := r2) (y := (0 : Int32)) hc95).1) (by decide) (by decide) ?_
          refine s_iconst (pc' := 111) (z := (0 : Int32)) X_76.here hx (hb hby at_110) rfl rfl ?_
          exfalso
          omega
        · skip
          refine s_ifNo (pc' := 98) X_76.here hx (hb hby at_95) rfl ((if0 _ _).trans (feqI (x := r2) (y := (0 : Int32)) hc95).1) ?_
          refine s_aload (pc' := 100) X_76.here hx (hb hby at_98) rfl rfl rfl ?_
          obtain ⟨cq_77, kq_77, q_77a, q_77b, q_77c⟩ := isOf hZ e_76 E_b_70
          obtain ⟨_, _, ⟨T_77, L_77, k_77, n_77⟩, -, X_77, ⟨Lc_77, hQ_77, l_77, y_77, z_77⟩, st_77⟩ := X_76.virtualBack hx (y := (⟨"com/example/pointcode/pointcode/sctp/DataChunk", "isBeginning", "()Z"⟩ : MethodName)) (z := (⟨"com/example/pointcode/pointcode/sctp/DataChunk", "isBeginning", "()Z"⟩ : MethodName)) hown (mvT hZ (hw _ (List.mem_of_getElem? (i := 36) rfl))) (mvT hZ (hw _ (List.mem_of_getElem? (i := 37) rfl))) (notFace_of_selects (args := #[]) (mvT hZ (hw _ (List.mem_of_getElem? (i := 39) rfl)))) (mvT hZ (hw _ (List.mem_of_getElem? (i := 39) rfl))) (mvT hZ (hw _ (List.mem_of_getElem? (i := 38) rfl))) (by decide) (backOf (W := 0) (rm4 l Z a0 hw [] b_70 (p0 &&& (-3 : Int32)) h_71 n0 Zs F_flags_b_70) hZ (hw _ (List.mem_of_getElem? (i := 40) rfl)) (hw _ (List.mem_of_getElem? (i := 3) rfl)) (by decide) (by decide)) q_77a q_77c (g := (mkF m 100 #[.val (.int p0), .val (.int p1), .val (.int p2), .val (.int p3), .val (.int p4), .val (.int p5), .val (.ref b_65), .val (.ref b_66), .val (.ref b_68), .val (.ref b_70), .val (.int (0 : Int32))] [(.ref b_70)])) rfl (by rw [hml]; rfl) (Steps.refl _) (argsL := []) (rest := []) (lenOf pd_2 rfl) rfl (by show 2 * 0 + _ ≤ _; exact Nat.le_of_eq rfl) (hb hby at_100) (fun _ _ => ⟨rfl, e_76, (by decide : 7 + 0 ≤ _), (by decide : 26 + 0 ≤ _)⟩)
          dsimp only [Pt.U, Pt.locs, Pt.cells, Pt.slots] at X_77 l_77 y_77 z_77 st_77 hQ_77
          subst l_77 y_77 z_77
          obtain ⟨Nq_77, e_77, r3, rfl, hr3⟩ := hQ_77
          replace Nf := Fr.app Nf Nq_77
          refine Win.come st_77 ?_
          clear st_77 Nq_77 X_76 e_76
          show Win p.tables e below _ (T_77.setTop (mkF m 103 #[.val (.int p0), .val (.int p1), .val (.int p2), .val (.int p3), .val (.int p4), .val (.int p5), .val (.ref b_65), .val (.ref b_66), .val (.ref b_68), .val (.ref b_70), .val (.int (0 : Int32))] [(.int r3)]))
          by_cases hc103 : (r3).toInt = (0 : Int)
          · skip
            refine s_ifNo (pc' := 106) X_77.here hx (hb hby at_103) rfl ((if0 _ _).trans (teqI (x := r3) (y := (0 : Int32)) hc103).2) ?_
            refine s_iconst (pc' := 107) (z := (1 : Int32)) X_77.here hx (hb hby at_106) rfl rfl ?_
            refine s_goto (pc' := 111) X_77.here hx (hb hby at_107) (by decide) (by decide) ?_
            refine winN X_77 hx hlk e_77 (t := .boolean) Bd.returns (by simp) (hb hby at_111) (by decide) (by decide) (z' := 1) rfl ⟨Nf, rfl⟩
          · skip
            refine s_ifYes (pc' := 110) X_77.here hx (hb hby at_103) ((if0 _ _).trans (feqI (x := r3) (y := (0 : Int32)) hc103).2) (by decide) (by decide) ?_
            refine s_iconst (pc' := 111) (z := (0 : Int32)) X_77.here hx (hb hby at_110) rfl rfl ?_
            exfalso
            omega
      · skip
        refine s_icmpYes (pc' := 110) X_75.here hx (hb hby at_87) (feqI (x := r1) (y := (0 : Int32)) hc87).2 (by decide) (by decide) ?_
        refine s_iconst (pc' := 111) (z := (0 : Int32)) X_75.here hx (hb hby at_110) rfl rfl ?_
        exfalso
        omega
  · skip
    show Win p.tables e below _ (s₁.setTop (mkF m 4 #[.val (.int p0), .val (.int p1), .val (.int p2), .val (.int p3), .val (.int p4), .val (.int p5), .unset, .unset, .unset, .unset, .unset] [(.int (3 : Int32))]))
    obtain ⟨T_78, h_78, k_78, X_78, e_78, Ex_78, A_78, EA_78, st_78⟩ := newPE X0 hx hZ (hw _ (List.mem_of_getElem? (i := 0) rfl)) e0 (g := (mkF m 4 #[.val (.int p0), .val (.int p1), .val (.int p2), .val (.int p3), .val (.int p4), .val (.int p5), .unset, .unset, .unset, .unset, .unset] [(.int (3 : Int32))])) rfl (hb hby at_4) rfl (by decide) (cap := 3) (by decide) (by decide) (by decide) (by decide) (ad := "[B") (by decide)
    obtain ⟨b_78, g_78⟩ : ∃ z, z = h0.size := ⟨_, rfl⟩
    have g_b_78 : n0 ≤ b_78 := Nat.le_trans Zs (Nat.le_of_eq g_78.symm)
    rw [← g_78] at A_78 EA_78 st_78
    replace Zs := Nat.le_trans Zs Ex_78.1
    have V_b_78 : Arv Z h_78 b_78 k_78 .byte (3 : Int32) [(.int (0 : Int32)), (.int (0 : Int32)), (.int (0 : Int32))] (.int (0 : Int32)) := (Arv.new A_78 (by decide)).pad (pad_rep [] (.int (0 : Int32)) 3)
    have lt_b_78 := V_b_78.lt
    have E_b_78 := EA_78
    refine Win.go st_78 ?_
    clear st_78 Ex_78 A_78 EA_78 g_78 X0 e0
    show Win p.tables e below _ (T_78.setTop (mkF m 6 #[.val (.int p0), .val (.int p1), .val (.int p2), .val (.int p3), .val (.int p4), .val (.int p5), .unset, .unset, .unset, .unset, .unset] [(.ref b_78)]))
    refine s_astore (pc' := 8) (l' := #[.val (.int p0), .val (.int p1), .val (.int p2), .val (.int p3), .val (.int p4), .val (.int p5), .val (.ref b_78), .unset, .unset, .unset, .unset]) X_78.here hx (hb hby at_6) rfl rfl rfl ?_
    obtain ⟨T_79, h_79, X_79, e_79, Ex_79, A_79, D_79, -, st_79⟩ := newO X_78 hx hZ hown (hw _ (List.mem_of_getElem? (i := 1) rfl)) (hw _ (List.mem_of_getElem? (i := 2) rfl)) (hw _ (List.mem_of_getElem? (i := 3) rfl)) e_78 (g := (mkF m 8 #[.val (.int p0), .val (.int p1), .val (.int p2), .val (.int p3), .val (.int p4), .val (.int p5), .val (.ref b_78), .unset, .unset, .unset, .unset] [])) rfl (hb hby at_8) (by decide) (by decide)
    obtain ⟨b_79, g_79⟩ : ∃ z, z = h_78.size := ⟨_, rfl⟩
    have ne_b_78_b_79 : b_78 ≠ b_79 := Nat.ne_of_lt (Nat.lt_of_lt_of_le lt_b_78 (Nat.le_of_eq g_79.symm))
    have g_b_79 : n0 ≤ b_79 := Nat.le_trans Zs (Nat.le_of_eq g_79.symm)
    rw [← g_79] at A_79 D_79 st_79
    replace V_b_78 := V_b_78.ext Ex_79
    replace E_b_78 := E_b_78.ext Ex_79
    replace lt_b_78 := Nat.lt_of_lt_of_le lt_b_78 Ex_79.1
    replace Zs := Nat.le_trans Zs Ex_79.1
    have E_b_79 := A_79
    have lt_b_79 := E_b_79.lt
    have F_flags_b_79 : Fld Z h_79 b_79 "com/example/pointcode/pointcode/sctp/DataChunk" "flags" "I" (.int (0 : Int32)) := D_79 (Or.inr (hw _ (List.mem_of_getElem? (i := 25) rfl))) (ty := .int) (by decide)
    have F_tsn_b_79 : Fld Z h_79 b_79 "com/example/pointcode/pointcode/sctp/DataChunk" "tsn" "I" (.int (0 : Int32)) := D_79 (Or.inr (hw _ (List.mem_of_getElem? (i := 27) rfl))) (ty := .int) (by decide)
    have F_stream_b_79 : Fld Z h_79 b_79 "com/example/pointcode/pointcode/sctp/DataChunk" "stream" "I" (.int (0 : Int32)) := D_79 (Or.inr (hw _ (List.mem_of_getElem? (i := 29) rfl))) (ty := .int) (by decide)
    have F_streamSequence_b_79 : Fld Z h_79 b_79 "com/example/pointcode/pointcode/sctp/DataChunk" "streamSequence" "I" (.int (0 : Int32)) := D_79 (Or.inr (hw _ (List.mem_of_getElem? (i := 31) rfl))) (ty := .int) (by decide)
    have F_payloadProtocol_b_79 : Fld Z h_79 b_79 "com/example/pointcode/pointcode/sctp/DataChunk" "payloadProtocol" "I" (.int (0 : Int32)) := D_79 (Or.inr (hw _ (List.mem_of_getElem? (i := 33) rfl))) (ty := .int) (by decide)
    have F_payload_b_79 : Fld Z h_79 b_79 "com/example/pointcode/pointcode/sctp/DataChunk" "payload" "[B" .null := D_79 (Or.inr (hw _ (List.mem_of_getElem? (i := 35) rfl))) (ty := (.array .byte)) (by decide)
    refine Win.go st_79 ?_
    clear st_79 Ex_79 A_79 D_79 g_79 X_78 e_78
    show Win p.tables e below _ (T_79.setTop (mkF m 11 #[.val (.int p0), .val (.int p1), .val (.int p2), .val (.int p3), .val (.int p4), .val (.int p5), .val (.ref b_78), .unset, .unset, .unset, .unset] [(.ref b_79)]))
    refine s_dup (pc' := 12) X_79.here hx (hb hby at_11) rfl rfl ?_
    refine s_iloadN (pc' := 13) X_79.here hx (hb hby at_12) rfl rfl ?_
    refine s_iloadN (pc' := 14) X_79.here hx (hb hby at_13) rfl rfl ?_
    refine s_iloadN (pc' := 15) X_79.here hx (hb hby at_14) rfl rfl ?_
    refine s_iloadN (pc' := 16) X_79.here hx (hb hby at_15) rfl rfl ?_
    refine s_iload (pc' := 18) X_79.here hx (hb hby at_16) rfl rfl ?_
    refine s_aload (pc' := 20) X_79.here hx (hb hby at_18) rfl rfl rfl ?_
    obtain ⟨_, _, ⟨T_80, L_80, k_80, n_80⟩, -, X_80, ⟨Lc_80, hQ_80, l_80, y_80, z_80⟩, st_80⟩ := X_79.specialBack hx (y := (⟨"com/example/pointcode/pointcode/sctp/DataChunk", "<init>", "(IIIII[B)V"⟩ : MethodName)) rfl hown (mvT hZ (hw _ (List.mem_of_getElem? (i := 4) rfl))) (mvT hZ (hw _ (List.mem_of_getElem? (i := 5) rfl))) (mvT hZ (hw _ (List.mem_of_getElem? (i := 6) rfl))) (by decide) (backOf (W := 1) (rm1_3 l Z a0 hw [] b_79 p0 p1 p2 p3 p4 b_78 k_78 h_79 n0 Zs E_b_79 F_flags_b_79 F_tsn_b_79 F_stream_b_79 F_streamSequence_b_79 F_payloadProtocol_b_79 F_payload_b_79 g_b_79 E_b_78 V_b_78 ne_b_78_b_79) hZ (hw _ (List.mem_of_getElem? (i := 6) rfl)) (hw _ (List.mem_of_getElem? (i := 3) rfl)) (by decide) (by decide)) (g := (mkF m 20 #[.val (.int p0), .val (.int p1), .val (.int p2), .val (.int p3), .val (.int p4), .val (.int p5), .val (.ref b_78), .unset, .unset, .unset, .unset] [(.ref b_78), (.int p4), (.int p3), (.int p2), (.int p1), (.int p0), (.ref b_79), (.ref b_79)])) rfl (by rw [hml]; rfl) (Steps.refl _) (a := b_79) (argsL := [(.int p0), (.int p1), (.int p2), (.int p3), (.int p4), (.ref b_78)]) (rest := [(.ref b_79)]) (lenOf pd_1 rfl) rfl (by show 2 * 0 + _ ≤ _; exact Nat.le_of_eq rfl) (hb hby at_20) (fun _ _ => ⟨rfl, e_79, (by decide : 2 + 1 ≤ _), (by decide : 9 + 3 ≤ _)⟩)
    dsimp only [Pt.U, Pt.locs, Pt.cells, Pt.slots] at X_80 l_80 y_80 z_80 st_80 hQ_80
    subst l_80 y_80 z_80
    obtain ⟨h_80, e_80⟩ : ∃ z, T_80.heap = z := ⟨_, rfl⟩
    rw [e_80] at hQ_80
    obtain ⟨Nq_80, K_80, n_80_F_flags_b_79, rfl⟩ := hQ_80
    replace Nf := Fr.app Nf Nq_80
    replace V_b_78 := V_b_78.keep K_80 (ninS ne_b_78_b_79 nin0)
    replace E_b_78 := E_b_78.keep K_80
    replace E_b_79 := E_b_79.keep K_80
    clear F_flags_b_79
    clear F_tsn_b_79
    clear F_stream_b_79
    clear F_streamSequence_b_79
    clear F_payloadProtocol_b_79
    clear F_payload_b_79
    replace lt_b_78 := Nat.lt_of_lt_of_le lt_b_78 K_80.1
    replace lt_b_79 := Nat.lt_of_lt_of_le lt_b_79 K_80.1
    replace Zs := Nat.le_trans Zs K_80.1
    have F_flags_b_79 := n_80_F_flags_b_79
    refine Win.come st_80 ?_
    clear st_80 Nq_80 X_79 e_79 K_80
    show Win p.tables e below _ (T_80.setTop (mkF m 23 #[.val (.int p0), .val (.int p1), .val (.int p2), .val (.int p3), .val (.int p4), .val (.int p5), .val (.ref b_78), .unset, .unset, .unset, .unset] [(.ref b_79)]))
    refine s_astore (pc' := 25) (l' := #[.val (.int p0), .val (.int p1), .val (.int p2), .val (.int p3), .val (.int p4), .val (.int p5), .val (.ref b_78), .val (.ref b_79), .unset, .unset, .unset]) X_80.here hx (hb hby at_23) rfl rfl rfl ?_
    obtain ⟨T_81, h_81, X_81, e_81, Ex_81, A_81, D_81, -, st_81⟩ := newO X_80 hx hZ hown (hw _ (List.mem_of_getElem? (i := 1) rfl)) (hw _ (List.mem_of_getElem? (i := 2) rfl)) (hw _ (List.mem_of_getElem? (i := 3) rfl)) e_80 (g := (mkF m 25 #[.val (.int p0), .val (.int p1), .val (.int p2), .val (.int p3), .val (.int p4), .val (.int p5), .val (.ref b_78), .val (.ref b_79), .unset, .unset, .unset] [])) rfl (hb hby at_25) (by decide) (by decide)
    obtain ⟨b_81, g_81⟩ : ∃ z, z = h_80.size := ⟨_, rfl⟩
    have ne_b_78_b_81 : b_78 ≠ b_81 := Nat.ne_of_lt (Nat.lt_of_lt_of_le lt_b_78 (Nat.le_of_eq g_81.symm))
    have ne_b_79_b_81 : b_79 ≠ b_81 := Nat.ne_of_lt (Nat.lt_of_lt_of_le lt_b_79 (Nat.le_of_eq g_81.symm))
    have g_b_81 : n0 ≤ b_81 := Nat.le_trans Zs (Nat.le_of_eq g_81.symm)
    rw [← g_81] at A_81 D_81 st_81
    replace V_b_78 := V_b_78.ext Ex_81
    replace E_b_78 := E_b_78.ext Ex_81
    replace E_b_79 := E_b_79.ext Ex_81
    replace F_flags_b_79 := F_flags_b_79.ext Ex_81
    replace lt_b_78 := Nat.lt_of_lt_of_le lt_b_78 Ex_81.1
    replace lt_b_79 := Nat.lt_of_lt_of_le lt_b_79 Ex_81.1
    replace Zs := Nat.le_trans Zs Ex_81.1
    have E_b_81 := A_81
    have lt_b_81 := E_b_81.lt
    have F_flags_b_81 : Fld Z h_81 b_81 "com/example/pointcode/pointcode/sctp/DataChunk" "flags" "I" (.int (0 : Int32)) := D_81 (Or.inr (hw _ (List.mem_of_getElem? (i := 25) rfl))) (ty := .int) (by decide)
    have F_tsn_b_81 : Fld Z h_81 b_81 "com/example/pointcode/pointcode/sctp/DataChunk" "tsn" "I" (.int (0 : Int32)) := D_81 (Or.inr (hw _ (List.mem_of_getElem? (i := 27) rfl))) (ty := .int) (by decide)
    have F_stream_b_81 : Fld Z h_81 b_81 "com/example/pointcode/pointcode/sctp/DataChunk" "stream" "I" (.int (0 : Int32)) := D_81 (Or.inr (hw _ (List.mem_of_getElem? (i := 29) rfl))) (ty := .int) (by decide)
    have F_streamSequence_b_81 : Fld Z h_81 b_81 "com/example/pointcode/pointcode/sctp/DataChunk" "streamSequence" "I" (.int (0 : Int32)) := D_81 (Or.inr (hw _ (List.mem_of_getElem? (i := 31) rfl))) (ty := .int) (by decide)
    have F_payloadProtocol_b_81 : Fld Z h_81 b_81 "com/example/pointcode/pointcode/sctp/DataChunk" "payloadProtocol" "I" (.int (0 : Int32)) := D_81 (Or.inr (hw _ (List.mem_of_getElem? (i := 33) rfl))) (ty := .int) (by decide)
    have F_payload_b_81 : Fld Z h_81 b_81 "com/example/pointcode/pointcode/sctp/DataChunk" "payload" "[B" .null := D_81 (Or.inr (hw _ (List.mem_of_getElem? (i := 35) rfl))) (ty := (.array .byte)) (by decide)
    refine Win.go st_81 ?_
    clear st_81 Ex_81 A_81 D_81 g_81 X_80 e_80
    show Win p.tables e below _ (T_81.setTop (mkF m 28 #[.val (.int p0), .val (.int p1), .val (.int p2), .val (.int p3), .val (.int p4), .val (.int p5), .val (.ref b_78), .val (.ref b_79), .unset, .unset, .unset] [(.ref b_81)]))
    refine s_dup (pc' := 29) X_81.here hx (hb hby at_28) rfl rfl ?_
    refine s_iloadN (pc' := 30) X_81.here hx (hb hby at_29) rfl rfl ?_
    refine s_iconst (pc' := 31) (z := (2 : Int32)) X_81.here hx (hb hby at_30) rfl rfl ?_
    refine s_ior (pc' := 32) X_81.here hx (hb hby at_31) rfl ?_
    refine s_iloadN (pc' := 33) X_81.here hx (hb hby at_32) rfl rfl ?_
    refine s_iloadN (pc' := 34) X_81.here hx (hb hby at_33) rfl rfl ?_
    refine s_iloadN (pc' := 35) X_81.here hx (hb hby at_34) rfl rfl ?_
    refine s_iload (pc' := 37) X_81.here hx (hb hby at_35) rfl rfl ?_
    refine s_aload (pc' := 39) X_81.here hx (hb hby at_37) rfl rfl rfl ?_
    obtain ⟨_, _, ⟨T_82, L_82, k_82, n_82⟩, -, X_82, ⟨Lc_82, hQ_82, l_82, y_82, z_82⟩, st_82⟩ := X_81.specialBack hx (y := (⟨"com/example/pointcode/pointcode/sctp/DataChunk", "<init>", "(IIIII[B)V"⟩ : MethodName)) rfl hown (mvT hZ (hw _ (List.mem_of_getElem? (i := 4) rfl))) (mvT hZ (hw _ (List.mem_of_getElem? (i := 5) rfl))) (mvT hZ (hw _ (List.mem_of_getElem? (i := 6) rfl))) (by decide) (backOf (W := 1) (rm1_3 l Z a0 hw [] b_81 (p0 ||| (2 : Int32)) p1 p2 p3 p4 b_78 k_78 h_81 n0 Zs E_b_81 F_flags_b_81 F_tsn_b_81 F_stream_b_81 F_streamSequence_b_81 F_payloadProtocol_b_81 F_payload_b_81 g_b_81 E_b_78 V_b_78 ne_b_78_b_81) hZ (hw _ (List.mem_of_getElem? (i := 6) rfl)) (hw _ (List.mem_of_getElem? (i := 3) rfl)) (by decide) (by decide)) (g := (mkF m 39 #[.val (.int p0), .val (.int p1), .val (.int p2), .val (.int p3), .val (.int p4), .val (.int p5), .val (.ref b_78), .val (.ref b_79), .unset, .unset, .unset] [(.ref b_78), (.int p4), (.int p3), (.int p2), (.int p1), (.int (p0 ||| (2 : Int32))), (.ref b_81), (.ref b_81)])) rfl (by rw [hml]; rfl) (Steps.refl _) (a := b_81) (argsL := [(.int (p0 ||| (2 : Int32))), (.int p1), (.int p2), (.int p3), (.int p4), (.ref b_78)]) (rest := [(.ref b_81)]) (lenOf pd_1 rfl) rfl (by show 2 * 0 + _ ≤ _; exact Nat.le_of_eq rfl) (hb hby at_39) (fun _ _ => ⟨rfl, e_81, (by decide : 4 + 1 ≤ _), (by decide : 18 + 3 ≤ _)⟩)
    dsimp only [Pt.U, Pt.locs, Pt.cells, Pt.slots] at X_82 l_82 y_82 z_82 st_82 hQ_82
    subst l_82 y_82 z_82
    obtain ⟨h_82, e_82⟩ : ∃ z, T_82.heap = z := ⟨_, rfl⟩
    rw [e_82] at hQ_82
    obtain ⟨Nq_82, K_82, n_82_F_flags_b_81, rfl⟩ := hQ_82
    replace Nf := Fr.app Nf Nq_82
    replace V_b_78 := V_b_78.keep K_82 (ninS ne_b_78_b_81 nin0)
    replace E_b_78 := E_b_78.keep K_82
    replace E_b_79 := E_b_79.keep K_82
    replace F_flags_b_79 := F_flags_b_79.keep K_82 (ninS ne_b_79_b_81 nin0)
    replace E_b_81 := E_b_81.keep K_82
    clear F_flags_b_81
    clear F_tsn_b_81
    clear F_stream_b_81
    clear F_streamSequence_b_81
    clear F_payloadProtocol_b_81
    clear F_payload_b_81
    replace lt_b_78 := Nat.lt_of_lt_of_le lt_b_78 K_82.1
    replace lt_b_79 := Nat.lt_of_lt_of_le lt_b_79 K_82.1
    replace lt_b_81 := Nat.lt_of_lt_of_le lt_b_81 K_82.1
    replace Zs := Nat.le_trans Zs K_82.1
    have F_flags_b_81 := n_82_F_flags_b_81
    refine Win.come st_82 ?_
    clear st_82 Nq_82 X_81 e_81 K_82
    show Win p.tables e below _ (T_82.setTop (mkF m 42 #[.val (.int p0), .val (.int p1), .val (.int p2), .val (.int p3), .val (.int p4), .val (.int p5), .val (.ref b_78), .val (.ref b_79), .unset, .unset, .unset] [(.ref b_81)]))
    refine s_astore (pc' := 44) (l' := #[.val (.int p0), .val (.int p1), .val (.int p2), .val (.int p3), .val (.int p4), .val (.int p5), .val (.ref b_78), .val (.ref b_79), .val (.ref b_81), .unset, .unset]) X_82.here hx (hb hby at_42) rfl rfl rfl ?_
    obtain ⟨T_83, h_83, X_83, e_83, Ex_83, A_83, D_83, -, st_83⟩ := newO X_82 hx hZ hown (hw _ (List.mem_of_getElem? (i := 1) rfl)) (hw _ (List.mem_of_getElem? (i := 2) rfl)) (hw _ (List.mem_of_getElem? (i := 3) rfl)) e_82 (g := (mkF m 44 #[.val (.int p0), .val (.int p1), .val (.int p2), .val (.int p3), .val (.int p4), .val (.int p5), .val (.ref b_78), .val (.ref b_79), .val (.ref b_81), .unset, .unset] [])) rfl (hb hby at_44) (by decide) (by decide)
    obtain ⟨b_83, g_83⟩ : ∃ z, z = h_82.size := ⟨_, rfl⟩
    have ne_b_78_b_83 : b_78 ≠ b_83 := Nat.ne_of_lt (Nat.lt_of_lt_of_le lt_b_78 (Nat.le_of_eq g_83.symm))
    have ne_b_79_b_83 : b_79 ≠ b_83 := Nat.ne_of_lt (Nat.lt_of_lt_of_le lt_b_79 (Nat.le_of_eq g_83.symm))
    have ne_b_81_b_83 : b_81 ≠ b_83 := Nat.ne_of_lt (Nat.lt_of_lt_of_le lt_b_81 (Nat.le_of_eq g_83.symm))
    have g_b_83 : n0 ≤ b_83 := Nat.le_trans Zs (Nat.le_of_eq g_83.symm)
    rw [← g_83] at A_83 D_83 st_83
    replace V_b_78 := V_b_78.ext Ex_83
    replace E_b_78 := E_b_78.ext Ex_83
    replace E_b_79 := E_b_79.ext Ex_83
    replace F_flags_b_79 := F_flags_b_79.ext Ex_83
    replace E_b_81 := E_b_81.ext Ex_83
    replace F_flags_b_81 := F_flags_b_81.ext Ex_83
    replace lt_b_78 := Nat.lt_of_lt_of_le lt_b_78 Ex_83.1
    replace lt_b_79 := Nat.lt_of_lt_of_le lt_b_79 Ex_83.1
    replace lt_b_81 := Nat.lt_of_lt_of_le lt_b_81 Ex_83.1
    replace Zs := Nat.le_trans Zs Ex_83.1
    have E_b_83 := A_83
    have lt_b_83 := E_b_83.lt
    have F_flags_b_83 : Fld Z h_83 b_83 "com/example/pointcode/pointcode/sctp/DataChunk" "flags" "I" (.int (0 : Int32)) := D_83 (Or.inr (hw _ (List.mem_of_getElem? (i := 25) rfl))) (ty := .int) (by decide)
    have F_tsn_b_83 : Fld Z h_83 b_83 "com/example/pointcode/pointcode/sctp/DataChunk" "tsn" "I" (.int (0 : Int32)) := D_83 (Or.inr (hw _ (List.mem_of_getElem? (i := 27) rfl))) (ty := .int) (by decide)
    have F_stream_b_83 : Fld Z h_83 b_83 "com/example/pointcode/pointcode/sctp/DataChunk" "stream" "I" (.int (0 : Int32)) := D_83 (Or.inr (hw _ (List.mem_of_getElem? (i := 29) rfl))) (ty := .int) (by decide)
    have F_streamSequence_b_83 : Fld Z h_83 b_83 "com/example/pointcode/pointcode/sctp/DataChunk" "streamSequence" "I" (.int (0 : Int32)) := D_83 (Or.inr (hw _ (List.mem_of_getElem? (i := 31) rfl))) (ty := .int) (by decide)
    have F_payloadProtocol_b_83 : Fld Z h_83 b_83 "com/example/pointcode/pointcode/sctp/DataChunk" "payloadProtocol" "I" (.int (0 : Int32)) := D_83 (Or.inr (hw _ (List.mem_of_getElem? (i := 33) rfl))) (ty := .int) (by decide)
    have F_payload_b_83 : Fld Z h_83 b_83 "com/example/pointcode/pointcode/sctp/DataChunk" "payload" "[B" .null := D_83 (Or.inr (hw _ (List.mem_of_getElem? (i := 35) rfl))) (ty := (.array .byte)) (by decide)
    refine Win.go st_83 ?_
    clear st_83 Ex_83 A_83 D_83 g_83 X_82 e_82
    show Win p.tables e below _ (T_83.setTop (mkF m 47 #[.val (.int p0), .val (.int p1), .val (.int p2), .val (.int p3), .val (.int p4), .val (.int p5), .val (.ref b_78), .val (.ref b_79), .val (.ref b_81), .unset, .unset] [(.ref b_83)]))
    refine s_dup (pc' := 48) X_83.here hx (hb hby at_47) rfl rfl ?_
    refine s_iloadN (pc' := 49) X_83.here hx (hb hby at_48) rfl rfl ?_
    refine s_bipush (pc' := 51) (z := (-3 : Int32)) X_83.here hx (hb hby at_49) rfl rfl ?_
    refine s_iand (pc' := 52) X_83.here hx (hb hby at_51) rfl ?_
    refine s_iloadN (pc' := 53) X_83.here hx (hb hby at_52) rfl rfl ?_
    refine s_iloadN (pc' := 54) X_83.here hx (hb hby at_53) rfl rfl ?_
    refine s_iloadN (pc' := 55) X_83.here hx (hb hby at_54) rfl rfl ?_
    refine s_iload (pc' := 57) X_83.here hx (hb hby at_55) rfl rfl ?_
    refine s_aload (pc' := 59) X_83.here hx (hb hby at_57) rfl rfl rfl ?_
    obtain ⟨_, _, ⟨T_84, L_84, k_84, n_84⟩, -, X_84, ⟨Lc_84, hQ_84, l_84, y_84, z_84⟩, st_84⟩ := X_83.specialBack hx (y := (⟨"com/example/pointcode/pointcode/sctp/DataChunk", "<init>", "(IIIII[B)V"⟩ : MethodName)) rfl hown (mvT hZ (hw _ (List.mem_of_getElem? (i := 4) rfl))) (mvT hZ (hw _ (List.mem_of_getElem? (i := 5) rfl))) (mvT hZ (hw _ (List.mem_of_getElem? (i := 6) rfl))) (by decide) (backOf (W := 1) (rm1_3 l Z a0 hw [] b_83 (p0 &&& (-3 : Int32)) p1 p2 p3 p4 b_78 k_78 h_83 n0 Zs E_b_83 F_flags_b_83 F_tsn_b_83 F_stream_b_83 F_streamSequence_b_83 F_payloadProtocol_b_83 F_payload_b_83 g_b_83 E_b_78 V_b_78 ne_b_78_b_83) hZ (hw _ (List.mem_of_getElem? (i := 6) rfl)) (hw _ (List.mem_of_getElem? (i := 3) rfl)) (by decide) (by decide)) (g := (mkF m 59 #[.val (.int p0), .val (.int p1), .val (.int p2), .val (.int p3), .val (.int p4), .val (.int p5), .val (.ref b_78), .val (.ref b_79), .val (.ref b_81), .unset, .unset] [(.ref b_78), (.int p4), (.int p3), (.int p2), (.int p1), (.int (p0 &&& (-3 : Int32))), (.ref b_83), (.ref b_83)])) rfl (by rw [hml]; rfl) (Steps.refl _) (a := b_83) (argsL := [(.int (p0 &&& (-3 : Int32))), (.int p1), (.int p2), (.int p3), (.int p4), (.ref b_78)]) (rest := [(.ref b_83)]) (lenOf pd_1 rfl) rfl (by show 2 * 0 + _ ≤ _; exact Nat.le_of_eq rfl) (hb hby at_59) (fun _ _ => ⟨rfl, e_83, (by decide : 6 + 1 ≤ _), (by decide : 27 + 3 ≤ _)⟩)
    dsimp only [Pt.U, Pt.locs, Pt.cells, Pt.slots] at X_84 l_84 y_84 z_84 st_84 hQ_84
    subst l_84 y_84 z_84
    obtain ⟨h_84, e_84⟩ : ∃ z, T_84.heap = z := ⟨_, rfl⟩
    rw [e_84] at hQ_84
    obtain ⟨Nq_84, K_84, n_84_F_flags_b_83, rfl⟩ := hQ_84
    replace Nf := Fr.app Nf Nq_84
    replace V_b_78 := V_b_78.keep K_84 (ninS ne_b_78_b_83 nin0)
    replace E_b_78 := E_b_78.keep K_84
    replace E_b_79 := E_b_79.keep K_84
    replace F_flags_b_79 := F_flags_b_79.keep K_84 (ninS ne_b_79_b_83 nin0)
    replace E_b_81 := E_b_81.keep K_84
    replace F_flags_b_81 := F_flags_b_81.keep K_84 (ninS ne_b_81_b_83 nin0)
    replace E_b_83 := E_b_83.keep K_84
    clear F_flags_b_83
    clear F_tsn_b_83
    clear F_stream_b_83
    clear F_streamSequence_b_83
    clear F_payloadProtocol_b_83
    clear F_payload_b_83
    replace lt_b_78 := Nat.lt_of_lt_of_le lt_b_78 K_84.1
    replace lt_b_79 := Nat.lt_of_lt_of_le lt_b_79 K_84.1
    replace lt_b_81 := Nat.lt_of_lt_of_le lt_b_81 K_84.1
    replace lt_b_83 := Nat.lt_of_lt_of_le lt_b_83 K_84.1
    replace Zs := Nat.le_trans Zs K_84.1
    have F_flags_b_83 := n_84_F_flags_b_83
    refine Win.come st_84 ?_
    clear st_84 Nq_84 X_83 e_83 K_84
    show Win p.tables e below _ (T_84.setTop (mkF m 62 #[.val (.int p0), .val (.int p1), .val (.int p2), .val (.int p3), .val (.int p4), .val (.int p5), .val (.ref b_78), .val (.ref b_79), .val (.ref b_81), .unset, .unset] [(.ref b_83)]))
    refine s_astore (pc' := 64) (l' := #[.val (.int p0), .val (.int p1), .val (.int p2), .val (.int p3), .val (.int p4), .val (.int p5), .val (.ref b_78), .val (.ref b_79), .val (.ref b_81), .val (.ref b_83), .unset]) X_84.here hx (hb hby at_62) rfl rfl rfl ?_
    refine s_iloadN (pc' := 65) X_84.here hx (hb hby at_64) rfl rfl ?_
    refine s_iconst (pc' := 66) (z := (1 : Int32)) X_84.here hx (hb hby at_65) rfl rfl ?_
    refine Win.go (fun _ k => XT.iushr X_84.here hx rfl (hb hby at_66) rfl k) ?_
    show Win p.tables e below _ (T_84.setTop (mkF m 67 #[.val (.int p0), .val (.int p1), .val (.int p2), .val (.int p3), .val (.int p4), .val (.int p5), .val (.ref b_78), .val (.ref b_79), .val (.ref b_81), .val (.ref b_83), .unset] [(.int (XT.ushr p0 (1 : Int32)))]))
    refine s_iconst (pc' := 68) (z := (1 : Int32)) X_84.here hx (hb hby at_67) rfl rfl ?_
    refine s_iand (pc' := 69) X_84.here hx (hb hby at_68) rfl ?_
    refine s_iconst (pc' := 70) (z := (1 : Int32)) X_84.here hx (hb hby at_69) rfl rfl ?_
    by_cases hc70 : (((XT.ushr p0 (1 : Int32)) &&& (1 : Int32))).toInt = (1 : Int)
    · skip
      refine s_icmpNo (pc' := 73) X_84.here hx (hb hby at_70) rfl (teqI (x := ((XT.ushr p0 (1 : Int32)) &&& (1 : Int32))) (y := (1 : Int32)) hc70).2 ?_
      refine s_iconst (pc' := 74) (z := (1 : Int32)) X_84.here hx (hb hby at_73) rfl rfl ?_
      refine s_goto (pc' := 78) X_84.here hx (hb hby at_74) (by decide) (by decide) ?_
      refine s_istore (pc' := 80) (l' := #[.val (.int p0), .val (.int p1), .val (.int p2), .val (.int p3), .val (.int p4), .val (.int p5), .val (.ref b_78), .val (.ref b_79), .val (.ref b_81), .val (.ref b_83), .val (.int (1 : Int32))]) X_84.here hx (hb hby at_78) rfl rfl ?_
      refine s_aload (pc' := 82) X_84.here hx (hb hby at_80) rfl rfl rfl ?_
      obtain ⟨cq_85, kq_85, q_85a, q_85b, q_85c⟩ := isOf hZ e_84 E_b_79
      obtain ⟨_, _, ⟨T_85, L_85, k_85, n_85⟩, -, X_85, ⟨Lc_85, hQ_85, l_85, y_85, z_85⟩, st_85⟩ := X_84.virtualBack hx (y := (⟨"com/example/pointcode/pointcode/sctp/DataChunk", "isBeginning", "()Z"⟩ : MethodName)) (z := (⟨"com/example/pointcode/pointcode/sctp/DataChunk", "isBeginning", "()Z"⟩ : MethodName)) hown (mvT hZ (hw _ (List.mem_of_getElem? (i := 36) rfl))) (mvT hZ (hw _ (List.mem_of_getElem? (i := 37) rfl))) (notFace_of_selects (args := #[]) (mvT hZ (hw _ (List.mem_of_getElem? (i := 39) rfl)))) (mvT hZ (hw _ (List.mem_of_getElem? (i := 39) rfl))) (mvT hZ (hw _ (List.mem_of_getElem? (i := 38) rfl))) (by decide) (backOf (W := 0) (rm4 l Z a0 hw [] b_79 p0 h_84 n0 Zs F_flags_b_79) hZ (hw _ (List.mem_of_getElem? (i := 40) rfl)) (hw _ (List.mem_of_getElem? (i := 3) rfl)) (by decide) (by decide)) q_85a q_85c (g := (mkF m 82 #[.val (.int p0), .val (.int p1), .val (.int p2), .val (.int p3), .val (.int p4), .val (.int p5), .val (.ref b_78), .val (.ref b_79), .val (.ref b_81), .val (.ref b_83), .val (.int (1 : Int32))] [(.ref b_79)])) rfl (by rw [hml]; rfl) (Steps.refl _) (argsL := []) (rest := []) (lenOf pd_2 rfl) rfl (by show 2 * 0 + _ ≤ _; exact Nat.le_of_eq rfl) (hb hby at_82) (fun _ _ => ⟨rfl, e_84, (by decide : 7 + 0 ≤ _), (by decide : 30 + 0 ≤ _)⟩)
      dsimp only [Pt.U, Pt.locs, Pt.cells, Pt.slots] at X_85 l_85 y_85 z_85 st_85 hQ_85
      subst l_85 y_85 z_85
      obtain ⟨Nq_85, e_85, r1, rfl, hr1⟩ := hQ_85
      replace Nf := Fr.app Nf Nq_85
      refine Win.come st_85 ?_
      clear st_85 Nq_85 X_84 e_84
      show Win p.tables e below _ (T_85.setTop (mkF m 85 #[.val (.int p0), .val (.int p1), .val (.int p2), .val (.int p3), .val (.int p4), .val (.int p5), .val (.ref b_78), .val (.ref b_79), .val (.ref b_81), .val (.ref b_83), .val (.int (1 : Int32))] [(.int r1)]))
      refine s_iload (pc' := 87) X_85.here hx (hb hby at_85) rfl rfl ?_
      by_cases hc87 : (r1).toInt = (1 : Int)
      · skip
        refine s_icmpNo (pc' := 90) X_85.here hx (hb hby at_87) rfl (teqI (x := r1) (y := (1 : Int32)) hc87).2 ?_
        refine s_aload (pc' := 92) X_85.here hx (hb hby at_90) rfl rfl rfl ?_
        obtain ⟨cq_86, kq_86, q_86a, q_86b, q_86c⟩ := isOf hZ e_85 E_b_81
        obtain ⟨_, _, ⟨T_86, L_86, k_86, n_86⟩, -, X_86, ⟨Lc_86, hQ_86, l_86, y_86, z_86⟩, st_86⟩ := X_85.virtualBack hx (y := (⟨"com/example/pointcode/pointcode/sctp/DataChunk", "isBeginning", "()Z"⟩ : MethodName)) (z := (⟨"com/example/pointcode/pointcode/sctp/DataChunk", "isBeginning", "()Z"⟩ : MethodName)) hown (mvT hZ (hw _ (List.mem_of_getElem? (i := 36) rfl))) (mvT hZ (hw _ (List.mem_of_getElem? (i := 37) rfl))) (notFace_of_selects (args := #[]) (mvT hZ (hw _ (List.mem_of_getElem? (i := 39) rfl)))) (mvT hZ (hw _ (List.mem_of_getElem? (i := 39) rfl))) (mvT hZ (hw _ (List.mem_of_getElem? (i := 38) rfl))) (by decide) (backOf (W := 0) (rm4 l Z a0 hw [] b_81 (p0 ||| (2 : Int32)) h_84 n0 Zs F_flags_b_81) hZ (hw _ (List.mem_of_getElem? (i := 40) rfl)) (hw _ (List.mem_of_getElem? (i := 3) rfl)) (by decide) (by decide)) q_86a q_86c (g := (mkF m 92 #[.val (.int p0), .val (.int p1), .val (.int p2), .val (.int p3), .val (.int p4), .val (.int p5), .val (.ref b_78), .val (.ref b_79), .val (.ref b_81), .val (.ref b_83), .val (.int (1 : Int32))] [(.ref b_81)])) rfl (by rw [hml]; rfl) (Steps.refl _) (argsL := []) (rest := []) (lenOf pd_2 rfl) rfl (by show 2 * 0 + _ ≤ _; exact Nat.le_of_eq rfl) (hb hby at_92) (fun _ _ => ⟨rfl, e_85, (by decide : 7 + 0 ≤ _), (by decide : 30 + 0 ≤ _)⟩)
        dsimp only [Pt.U, Pt.locs, Pt.cells, Pt.slots] at X_86 l_86 y_86 z_86 st_86 hQ_86
        subst l_86 y_86 z_86
        obtain ⟨Nq_86, e_86, r2, rfl, hr2⟩ := hQ_86
        replace Nf := Fr.app Nf Nq_86
        refine Win.come st_86 ?_
        clear st_86 Nq_86 X_85 e_85
        show Win p.tables e below _ (T_86.setTop (mkF m 95 #[.val (.int p0), .val (.int p1), .val (.int p2), .val (.int p3), .val (.int p4), .val (.int p5), .val (.ref b_78), .val (.ref b_79), .val (.ref b_81), .val (.ref b_83), .val (.int (1 : Int32))] [(.int r2)]))
        by_cases hc95 : (r2).toInt = (0 : Int)
        · skip
          refine s_ifYes (pc' := 110) X_86.here hx (hb hby at_95) ((if0 _ _).trans (teqI (x := r2) (y := (0 : Int32)) hc95).1) (by decide) (by decide) ?_
          refine s_iconst (pc' := 111) (z := (0 : Int32)) X_86.here hx (hb hby at_110) rfl rfl ?_
          exfalso
          omega
        · skip
          refine s_ifNo (pc' := 98) X_86.here hx (hb hby at_95) rfl ((if0 _ _).trans (feqI (x := r2) (y := (0 : Int32)) hc95).1) ?_
          refine s_aload (pc' := 100) X_86.here hx (hb hby at_98) rfl rfl rfl ?_
          obtain ⟨cq_87, kq_87, q_87a, q_87b, q_87c⟩ := isOf hZ e_86 E_b_83
          obtain ⟨_, _, ⟨T_87, L_87, k_87, n_87⟩, -, X_87, ⟨Lc_87, hQ_87, l_87, y_87, z_87⟩, st_87⟩ := X_86.virtualBack hx (y := (⟨"com/example/pointcode/pointcode/sctp/DataChunk", "isBeginning", "()Z"⟩ : MethodName)) (z := (⟨"com/example/pointcode/pointcode/sctp/DataChunk", "isBeginning", "()Z"⟩ : MethodName)) hown (mvT hZ (hw _ (List.mem_of_getElem? (i := 36) rfl))) (mvT hZ (hw _ (List.mem_of_getElem? (i := 37) rfl))) (notFace_of_selects (args := #[]) (mvT hZ (hw _ (List.mem_of_getElem? (i := 39) rfl)))) (mvT hZ (hw _ (List.mem_of_getElem? (i := 39) rfl))) (mvT hZ (hw _ (List.mem_of_getElem? (i := 38) rfl))) (by decide) (backOf (W := 0) (rm4 l Z a0 hw [] b_83 (p0 &&& (-3 : Int32)) h_84 n0 Zs F_flags_b_83) hZ (hw _ (List.mem_of_getElem? (i := 40) rfl)) (hw _ (List.mem_of_getElem? (i := 3) rfl)) (by decide) (by decide)) q_87a q_87c (g := (mkF m 100 #[.val (.int p0), .val (.int p1), .val (.int p2), .val (.int p3), .val (.int p4), .val (.int p5), .val (.ref b_78), .val (.ref b_79), .val (.ref b_81), .val (.ref b_83), .val (.int (1 : Int32))] [(.ref b_83)])) rfl (by rw [hml]; rfl) (Steps.refl _) (argsL := []) (rest := []) (lenOf pd_2 rfl) rfl (by show 2 * 0 + _ ≤ _; exact Nat.le_of_eq rfl) (hb hby at_100) (fun _ _ => ⟨rfl, e_86, (by decide : 7 + 0 ≤ _), (by decide : 30 + 0 ≤ _)⟩)
          dsimp only [Pt.U, Pt.locs, Pt.cells, Pt.slots] at X_87 l_87 y_87 z_87 st_87 hQ_87
          subst l_87 y_87 z_87
          obtain ⟨Nq_87, e_87, r3, rfl, hr3⟩ := hQ_87
          replace Nf := Fr.app Nf Nq_87
          refine Win.come st_87 ?_
          clear st_87 Nq_87 X_86 e_86
          show Win p.tables e below _ (T_87.setTop (mkF m 103 #[.val (.int p0), .val (.int p1), .val (.int p2), .val (.int p3), .val (.int p4), .val (.int p5), .val (.ref b_78), .val (.ref b_79), .val (.ref b_81), .val (.ref b_83), .val (.int (1 : Int32))] [(.int r3)]))
          by_cases hc103 : (r3).toInt = (0 : Int)
          · skip
            refine s_ifNo (pc' := 106) X_87.here hx (hb hby at_103) rfl ((if0 _ _).trans (teqI (x := r3) (y := (0 : Int32)) hc103).2) ?_
            refine s_iconst (pc' := 107) (z := (1 : Int32)) X_87.here hx (hb hby at_106) rfl rfl ?_
            refine s_goto (pc' := 111) X_87.here hx (hb hby at_107) (by decide) (by decide) ?_
            refine winN X_87 hx hlk e_87 (t := .boolean) Bd.returns (by simp) (hb hby at_111) (by decide) (by decide) (z' := 1) rfl ⟨Nf, rfl⟩
          · skip
            refine s_ifYes (pc' := 110) X_87.here hx (hb hby at_103) ((if0 _ _).trans (feqI (x := r3) (y := (0 : Int32)) hc103).2) (by decide) (by decide) ?_
            refine s_iconst (pc' := 111) (z := (0 : Int32)) X_87.here hx (hb hby at_110) rfl rfl ?_
            exfalso
            omega
      · skip
        refine s_icmpYes (pc' := 110) X_85.here hx (hb hby at_87) (feqI (x := r1) (y := (1 : Int32)) hc87).2 (by decide) (by decide) ?_
        refine s_iconst (pc' := 111) (z := (0 : Int32)) X_85.here hx (hb hby at_110) rfl rfl ?_
        exfalso
        omega
    · skip
      refine s_icmpYes (pc' := 77) X_84.here hx (hb hby at_70) (feqI (x := ((XT.ushr p0 (1 : Int32)) &&& (1 : Int32))) (y := (1 : Int32)) hc70).2 (by decide) (by decide) ?_
      refine s_iconst (pc' := 78) (z := (0 : Int32)) X_84.here hx (hb hby at_77) rfl rfl ?_
      refine s_istore (pc' := 80) (l' := #[.val (.int p0), .val (.int p1), .val (.int p2), .val (.int p3), .val (.int p4), .val (.int p5), .val (.ref b_78), .val (.ref b_79), .val (.ref b_81), .val (.ref b_83), .val (.int (0 : Int32))]) X_84.here hx (hb hby at_78) rfl rfl ?_
      refine s_aload (pc' := 82) X_84.here hx (hb hby at_80) rfl rfl rfl ?_
      obtain ⟨cq_88, kq_88, q_88a, q_88b, q_88c⟩ := isOf hZ e_84 E_b_79
      obtain ⟨_, _, ⟨T_88, L_88, k_88, n_88⟩, -, X_88, ⟨Lc_88, hQ_88, l_88, y_88, z_88⟩, st_88⟩ := X_84.virtualBack hx (y := (⟨"com/example/pointcode/pointcode/sctp/DataChunk", "isBeginning", "()Z"⟩ : MethodName)) (z := (⟨"com/example/pointcode/pointcode/sctp/DataChunk", "isBeginning", "()Z"⟩ : MethodName)) hown (mvT hZ (hw _ (List.mem_of_getElem? (i := 36) rfl))) (mvT hZ (hw _ (List.mem_of_getElem? (i := 37) rfl))) (notFace_of_selects (args := #[]) (mvT hZ (hw _ (List.mem_of_getElem? (i := 39) rfl)))) (mvT hZ (hw _ (List.mem_of_getElem? (i := 39) rfl))) (mvT hZ (hw _ (List.mem_of_getElem? (i := 38) rfl))) (by decide) (backOf (W := 0) (rm4 l Z a0 hw [] b_79 p0 h_84 n0 Zs F_flags_b_79) hZ (hw _ (List.mem_of_getElem? (i := 40) rfl)) (hw _ (List.mem_of_getElem? (i := 3) rfl)) (by decide) (by decide)) q_88a q_88c (g := (mkF m 82 #[.val (.int p0), .val (.int p1), .val (.int p2), .val (.int p3), .val (.int p4), .val (.int p5), .val (.ref b_78), .val (.ref b_79), .val (.ref b_81), .val (.ref b_83), .val (.int (0 : Int32))] [(.ref b_79)])) rfl (by rw [hml]; rfl) (Steps.refl _) (argsL := []) (rest := []) (lenOf pd_2 rfl) rfl (by show 2 * 0 + _ ≤ _; exact Nat.le_of_eq rfl) (hb hby at_82) (fun _ _ => ⟨rfl, e_84, (by decide : 7 + 0 ≤ _), (by decide : 30 + 0 ≤ _)⟩)
      dsimp only [Pt.U, Pt.locs, Pt.cells, Pt.slots] at X_88 l_88 y_88 z_88 st_88 hQ_88
      subst l_88 y_88 z_88
      obtain ⟨Nq_88, e_88, r1, rfl, hr1⟩ := hQ_88
      replace Nf := Fr.app Nf Nq_88
      refine Win.come st_88 ?_
      clear st_88 Nq_88 X_84 e_84
      show Win p.tables e below _ (T_88.setTop (mkF m 85 #[.val (.int p0), .val (.int p1), .val (.int p2), .val (.int p3), .val (.int p4), .val (.int p5), .val (.ref b_78), .val (.ref b_79), .val (.ref b_81), .val (.ref b_83), .val (.int (0 : Int32))] [(.int r1)]))
      refine s_iload (pc' := 87) X_88.here hx (hb hby at_85) rfl rfl ?_
      by_cases hc87 : (r1).toInt = (0 : Int)
      · skip
        refine s_icmpNo (pc' := 90) X_88.here hx (hb hby at_87) rfl (teqI (x := r1) (y := (0 : Int32)) hc87).2 ?_
        refine s_aload (pc' := 92) X_88.here hx (hb hby at_90) rfl rfl rfl ?_
        obtain ⟨cq_89, kq_89, q_89a, q_89b, q_89c⟩ := isOf hZ e_88 E_b_81
        obtain ⟨_, _, ⟨T_89, L_89, k_89, n_89⟩, -, X_89, ⟨Lc_89, hQ_89, l_89, y_89, z_89⟩, st_89⟩ := X_88.virtualBack hx (y := (⟨"com/example/pointcode/pointcode/sctp/DataChunk", "isBeginning", "()Z"⟩ : MethodName)) (z := (⟨"com/example/pointcode/pointcode/sctp/DataChunk", "isBeginning", "()Z"⟩ : MethodName)) hown (mvT hZ (hw _ (List.mem_of_getElem? (i := 36) rfl))) (mvT hZ (hw _ (List.mem_of_getElem? (i := 37) rfl))) (notFace_of_selects (args := #[]) (mvT hZ (hw _ (List.mem_of_getElem? (i := 39) rfl)))) (mvT hZ (hw _ (List.mem_of_getElem? (i := 39) rfl))) (mvT hZ (hw _ (List.mem_of_getElem? (i := 38) rfl))) (by decide) (backOf (W := 0) (rm4 l Z a0 hw [] b_81 (p0 ||| (2 : Int32)) h_84 n0 Zs F_flags_b_81) hZ (hw _ (List.mem_of_getElem? (i := 40) rfl)) (hw _ (List.mem_of_getElem? (i := 3) rfl)) (by decide) (by decide)) q_89a q_89c (g := (mkF m 92 #[.val (.int p0), .val (.int p1), .val (.int p2), .val (.int p3), .val (.int p4), .val (.int p5), .val (.ref b_78), .val (.ref b_79), .val (.ref b_81), .val (.ref b_83), .val (.int (0 : Int32))] [(.ref b_81)])) rfl (by rw [hml]; rfl) (Steps.refl _) (argsL := []) (rest := []) (lenOf pd_2 rfl) rfl (by show 2 * 0 + _ ≤ _; exact Nat.le_of_eq rfl) (hb hby at_92) (fun _ _ => ⟨rfl, e_88, (by decide : 7 + 0 ≤ _), (by decide : 30 + 0 ≤ _)⟩)
        dsimp only [Pt.U, Pt.locs, Pt.cells, Pt.slots] at X_89 l_89 y_89 z_89 st_89 hQ_89
        subst l_89 y_89 z_89
        obtain ⟨Nq_89, e_89, r2, rfl, hr2⟩ := hQ_89
        replace Nf := Fr.app Nf Nq_89
        refine Win.come st_89 ?_
        clear st_89 Nq_89 X_88 e_88
        show Win p.tables e below _ (T_89.setTop (mkF m 95 #[.val (.int p0), .val (.int p1), .val (.int p2), .val (.int p3), .val (.int p4), .val (.int p5), .val (.ref b_78), .val (.ref b_79), .val (.ref b_81), .val (.ref b_83), .val (.int (0 : Int32))] [(.int r2)]))
        by_cases hc95 : (r2).toInt = (0 : Int)
        · skip
          refine s_ifYes (pc' := 110) X_89.here hx (hb hby at_95) ((if0 _ _).trans (teqI (x := r2) (y := (0 : Int32)) hc95).1) (by decide) (by decide) ?_
          refine s_iconst (pc' := 111) (z := (0 : Int32)) X_89.here hx (hb hby at_110) rfl rfl ?_
          exfalso
          omega
        · skip
          refine s_ifNo (pc' := 98) X_89.here hx (hb hby at_95) rfl ((if0 _ _).trans (feqI (x := r2) (y := (0 : Int32)) hc95).1) ?_
          refine s_aload (pc' := 100) X_89.here hx (hb hby at_98) rfl rfl rfl ?_
          obtain ⟨cq_90, kq_90, q_90a, q_90b, q_90c⟩ := isOf hZ e_89 E_b_83
          obtain ⟨_, _, ⟨T_90, L_90, k_90, n_90⟩, -, X_90, ⟨Lc_90, hQ_90, l_90, y_90, z_90⟩, st_90⟩ := X_89.virtualBack hx (y := (⟨"com/example/pointcode/pointcode/sctp/DataChunk", "isBeginning", "()Z"⟩ : MethodName)) (z := (⟨"com/example/pointcode/pointcode/sctp/DataChunk", "isBeginning", "()Z"⟩ : MethodName)) hown (mvT hZ (hw _ (List.mem_of_getElem? (i := 36) rfl))) (mvT hZ (hw _ (List.mem_of_getElem? (i := 37) rfl))) (notFace_of_selects (args := #[]) (mvT hZ (hw _ (List.mem_of_getElem? (i := 39) rfl)))) (mvT hZ (hw _ (List.mem_of_getElem? (i := 39) rfl))) (mvT hZ (hw _ (List.mem_of_getElem? (i := 38) rfl))) (by decide) (backOf (W := 0) (rm4 l Z a0 hw [] b_83 (p0 &&& (-3 : Int32)) h_84 n0 Zs F_flags_b_83) hZ (hw _ (List.mem_of_getElem? (i := 40) rfl)) (hw _ (List.mem_of_getElem? (i := 3) rfl)) (by decide) (by decide)) q_90a q_90c (g := (mkF m 100 #[.val (.int p0), .val (.int p1), .val (.int p2), .val (.int p3), .val (.int p4), .val (.int p5), .val (.ref b_78), .val (.ref b_79), .val (.ref b_81), .val (.ref b_83), .val (.int (0 : Int32))] [(.ref b_83)])) rfl (by rw [hml]; rfl) (Steps.refl _) (argsL := []) (rest := []) (lenOf pd_2 rfl) rfl (by show 2 * 0 + _ ≤ _; exact Nat.le_of_eq rfl) (hb hby at_100) (fun _ _ => ⟨rfl, e_89, (by decide : 7 + 0 ≤ _), (by decide : 30 + 0 ≤ _)⟩)
          dsimp only [Pt.U, Pt.locs, Pt.cells, Pt.slots] at X_90 l_90 y_90 z_90 st_90 hQ_90
          subst l_90 y_90 z_90
          obtain ⟨Nq_90, e_90, r3, rfl, hr3⟩ := hQ_90
          replace Nf := Fr.app Nf Nq_90
          refine Win.come st_90 ?_
          clear st_90 Nq_90 X_89 e_89
          show Win p.tables e below _ (T_90.setTop (mkF m 103 #[.val (.int p0), .val (.int p1), .val (.int p2), .val (.int p3), .val (.int p4), .val (.int p5), .val (.ref b_78), .val (.ref b_79), .val (.ref b_81), .val (.ref b_83), .val (.int (0 : Int32))] [(.int r3)]))
          by_cases hc103 : (r3).toInt = (0 : Int)
          · skip
            refine s_ifNo (pc' := 106) X_90.here hx (hb hby at_103) rfl ((if0 _ _).trans (teqI (x := r3) (y := (0 : Int32)) hc103).2) ?_
            refine s_iconst (pc' := 107) (z := (1 : Int32)) X_90.here hx (hb hby at_106) rfl rfl ?_
            refine s_goto (pc' := 111) X_90.here hx (hb hby at_107) (by decide) (by decide) ?_
            refine winN X_90 hx hlk e_90 (t := .boolean) Bd.returns (by simp) (hb hby at_111) (by decide) (by decide) (z' := 1) rfl ⟨Nf, rfl⟩
          · skip
            refine s_ifYes (pc' := 110) X_90.here hx (hb hby at_103) ((if0 _ _).trans (feqI (x := r3) (y := (0 : Int32)) hc103).2) (by decide) (by decide) ?_
            refine s_iconst (pc' := 111) (z := (0 : Int32)) X_90.here hx (hb hby at_110) rfl rfl ?_
            exfalso
            omega
      · skip
        refine s_icmpYes (pc' := 110) X_88.here hx (hb hby at_87) (feqI (x := r1) (y := (0 : Int32)) hc87).2 (by decide) (by decide) ?_
        refine s_iconst (pc' := 111) (z := (0 : Int32)) X_88.here hx (hb hby at_110) rfl rfl ?_
        exfalso
        omega
set_option maxRecDepth 65536 in
set_option maxHeartbeats 40000000 in
theorem comes_1 {Post : Tables → Env → Array Value → State → Outcome → State → Prop} (hpost : ∀ tb e args s v u, (limb_1_1.after args s (.returned v) u = true ∧ limb_1_2.after args s (.returned v) u = true ∧ True) → FrameEnd s (.returned v) u (Jvm.fieldLocs frame_1_writes args s ++ Jvm.arrayLocs frame_1_arrays args s ++ Jvm.staticLocs frame_1_statics s) 24 128 → Post tb e args s (.returned v) u) :
    ArmFor flags0 classFile x code maxLocals ret World_1 tables_1 room_1 Calls_1 rest_1 Pre_1 Post := by
  intro l hfl _ _ p e ha hc hk s m args below hf hA hF happ hP
  obtain ⟨hcalls, hrest, hpre⟩ := hP
  obtain ⟨-, -, -, hnamed, -, -, -, hat⟩ := (Spec.applies_iff hf).mp happ
  obtain ⟨hg, hn⟩ := and_e (Cond.before_iff.mp (show (Jvm.Cond.and given_1 narrow_1).before args s = true from hpre))
  obtain ⟨g1, g2⟩ := and_e hg
  obtain ⟨g3, g4⟩ := and_e g2
  obtain ⟨g5, g6⟩ := and_e g4
  obtain ⟨g7, g8⟩ := and_e g6
  obtain ⟨g9, g10⟩ := and_e g8
  obtain ⟨g11, g12⟩ := and_e g10
  obtain ⟨w0, w1, w2, w3, w4, w5, rfl⟩ : ∃ w0 w1 w2 w3 w4 w5 : Value, args = #[w0, w1, w2, w3, w4, w5] := by
    have hs : args.size = 6 := by simpa [Cond.value, given_1] using g1
    obtain ⟨L⟩ := args
    match L, hs with
    | [w0, w1, w2, w3, w4, w5], _ => exact ⟨w0, w1, w2, w3, w4, w5, rfl⟩
  have hw := fun d (hd : d ∈ tables_1) => atoms_spec (ws := Jvm.Cond.code x code maxLocals ret :: tables_1) hat d (List.mem_cons_of_mem _ hd)
  have hfit : Fit s := fun {y c} hc i hi => by
    obtain ⟨ha, rfl⟩ := Array.getElem?_eq_some_iff.mp hc
    have q := List.all_eq_true.mp ((Array.all_eq_true_iff_forall_mem.mp hF) _ (Array.getElem_mem ha)) i (List.mem_range.mpr hi)
    simpa [Array.getElem?_eq_getElem hi] using q
  obtain ⟨i0, ei0⟩ := is_v g3
  obtain rfl : w0 = (.int i0) := Option.some.inj ei0
  obtain ⟨i1, ei1⟩ := is_v g5
  obtain rfl : w1 = (.int i1) := Option.some.inj ei1
  obtain ⟨i2, ei2⟩ := is_v g7
  obtain rfl : w2 = (.int i2) := Option.some.inj ei2
  obtain ⟨i3, ei3⟩ := is_v g9
  obtain rfl : w3 = (.int i3) := Option.some.inj ei3
  obtain ⟨i4, ei4⟩ := is_v g11
  obtain rfl : w4 = (.int i4) := Option.some.inj ei4
  obtain ⟨i5, ei5⟩ := is_v g12
  obtain rfl : w5 = (.int i5) := Option.some.inj ei5
  obtain ⟨n, o, h1, h2, h3, _, L, rfl, ⟨N, rfl⟩, hq⟩ := rm0 l s _ hw tables_1 i0 i1 i2 i3 i4 i5 s.heap s.heap.size (Nat.le_refl _) p e ha hc hk s m _ below hf ((Spec.applies_iff_loose hf).mp happ).1 ⟨rfl, State.Warmed39.refl s, rfl⟩ trivial
  refine ⟨n, _, h1, h2, h3, hpost _ _ _ _ _ _ ⟨Cond.after_iff.mpr rfl, Cond.after_iff.mpr (eq_i res_at (Term.int_eval (1)) rfl), trivial⟩ ⟨hq.1, hq.2.1, (hq.2.2.sift fun y hy => Or.inr (N y hy)).mono (by decide) (by decide)⟩⟩
theorem main_1_1 : Claimed_1_1 := comes_1 fun _ _ _ _ _ _ h hF => ⟨h.1, hF⟩
theorem main_1_2 : Claimed_1_2 := comes_1 fun _ _ _ _ _ _ h hF => ⟨h.2.1, hF⟩
end Jvm.Pilot.@@N@@
namespace Jvm.Pilot.@@N@@
open Jvm Jvm.ClassFile Sem Op Lib Jvm.Free Jvm.Stand Jvm.Pilot.@@N@@.Jvm.D
/-! MADE BY PROGRAM (witnessworld.py) out of the Statement's table words and the real class files: 10 classes; the members and pool entries that the words name. The judged class is class 1, her method 1. -/
namespace start1
open Jvm.ClassFile
def u (s : String) : CpInfo := .utf8 (stringToUtf16 s)
/-- a pool by its gaps: so many unusable entries, then the entry; so many at the end -/
def gap : Nat → List CpInfo → List CpInfo
  | 0, r => r
  | n + 1, r => .unusable :: gap n r
def poolList (es : List (Nat × CpInfo)) (last : Nat) : List CpInfo := es.foldr (fun e r => gap e.1 (e.2 :: r)) (gap last [])
def pool (es : List (Nat × CpInfo)) (last : Nat) : Array CpInfo := ⟨poolList es last⟩
def fileOf (pool : Array CpInfo) (this : Nat) (attrs : Array Attribute := #[]) (ms : Array MethodInfo := #[]) (fl : Nat := 33) (sup : Nat := 0) (ifs : Array Nat := #[]) (fds : Array FieldInfo := #[]) : ClassFile where
  minorVersion := 0
  majorVersion := 65
  constantPool := pool
  accessFlags := fl
  thisClass := this
  superClass := sup
  interfaces := ifs
  fields := fds
  methods := ms
  attributes := attrs
def plain (name : String) (sup : Option ClassId) : Class where
  name := name
  kind := .ordinary
  loader := none
  accessFlags := 33
  super := sup
  interfaces := #[]
  cf := none
  fields := #[]
  methods := #[]
  instanceTypes := #[]
  staticTypes := #[]
  resolved := #[]
  callSites := []
  init := .initialized
  statics := none
  mirror := none

def pool0 : Array CpInfo := pool [(5, u "<init>"), (0, u "()V"), (1, .class_ 10), (1, u "java/lang/Object"), (85, u "clone"), (0, u "()Ljava/lang/Object;")] 26

def k0c0 : Code := { maxStack := 0, maxLocals := 1, code := object_method_1_code, exceptionTable := #[], attributes := #[] }
def k0m0 : Method := { name := "<init>", desc := "()V", sig := { parameters := [], returnType := none }, accessFlags := 1, code := some k0c0 }
def k0m1 : Method := { name := "clone", desc := "()Ljava/lang/Object;", sig := { parameters := [], returnType := some (.object "java/lang/Object") }, accessFlags := 260, code := none }
/-- java/lang/Object -/
def k0 : Class := { plain "java/lang/Object" none with
  accessFlags := 33
  interfaces := #[]
  cf := some (fileOf pool0 8 #[] #[{ accessFlags := 1, nameIndex := 5, descriptorIndex := 6, attributes := #[] }, { accessFlags := 260, nameIndex := 96, descriptorIndex := 97, attributes := #[] }] 33 0 #[] #[])
  fields := #[]
  methods := #[k0m0, k0m1]
  instanceTypes := #[]
  staticTypes := #[]
  resolved := Array.replicate 124 none
  statics := none }

def pool1 : Array CpInfo := pool [(2, .class_ 4), (1, u "java/lang/Object"), (0, u "<init>"), (0, u "()V"), (0, .class_ 8), (0, u "com/example/pointcode/pointcode/sctp/DataChunk"), (0, .methodref 7 10), (0, .nameAndType 5 11), (0, u "(IIIII[B)V"), (0, .methodref 7 13), (0, .nameAndType 14 15), (0, u "isBeginning"), (0, u "()Z"), (0, .class_ 17), (0, u "com/example/pointcode/pointcode/sctp/DataChunkIsBeginningPinLaw"), (2, u "law"), (0, u "(IIIIII)Z")] 5

def k1m0 : Method := { name := "<init>", desc := "()V", sig := { parameters := [], returnType := none }, accessFlags := 1, code := none }
def k1c1 : Code := { maxStack := 8, maxLocals := 11, code := code, exceptionTable := #[], attributes := #[] }
def k1m1 : Method := { name := "law", desc := "(IIIIII)Z", sig := { parameters := [.int, .int, .int, .int, .int, .int], returnType := some .boolean }, accessFlags := 9, code := some k1c1 }
/-- com/example/pointcode/pointcode/sctp/DataChunkIsBeginningPinLaw -/
def k1 : Class := { plain "com/example/pointcode/pointcode/sctp/DataChunkIsBeginningPinLaw" (some 0) with
  accessFlags := 49
  interfaces := #[]
  cf := some (fileOf pool1 16 #[] #[{ accessFlags := 1, nameIndex := 5, descriptorIndex := 6, attributes := #[] }, { accessFlags := 9, nameIndex := 20, descriptorIndex := 21, attributes := #[] }] 49 2 #[] #[])
  fields := #[]
  methods := #[k1m0, k1m1]
  instanceTypes := #[]
  staticTypes := #[]
  resolved := Array.replicate 27 none
  statics := none }

def pool2 : Array CpInfo := pool [(1, .methodref 2 3), (0, .class_ 4), (0, .nameAndType 5 6), (0, u "java/lang/Object"), (0, u "<init>"), (0, u "()V"), (0, .class_ 8), (0, u "java/lang/Record")] 13

def k2c0 : Code := { maxStack := 1, maxLocals := 1, code := jdk_30_method_1_code, exceptionTable := #[], attributes := #[] }
def k2m0 : Method := { name := "<init>", desc := "()V", sig := { parameters := [], returnType := none }, accessFlags := 4, code := some k2c0 }
/-- java/lang/Record -/
def k2 : Class := { plain "java/lang/Record" (some 0) with
  accessFlags := 1057
  interfaces := #[]
  cf := some (fileOf pool2 7 #[] #[{ accessFlags := 4, nameIndex := 5, descriptorIndex := 6, attributes := #[] }] 1057 2 #[] #[])
  fields := #[]
  methods := #[k2m0]
  instanceTypes := #[]
  staticTypes := #[]
  resolved := Array.replicate 22 none
  statics := none }

def pool3 : Array CpInfo := pool [(1, .class_ 2), (0, u "com/example/pointcode/pointcode/sctp/DataChunk"), (2, .methodref 6 7), (0, .class_ 8), (0, .nameAndType 9 10), (0, u "java/lang/Record"), (0, u "<init>"), (0, u "()V"), (0, .methodref 12 13), (0, .class_ 14), (0, .nameAndType 15 16), (0, u "[B"), (0, u "clone"), (0, u "()Ljava/lang/Object;"), (0, .fieldref 1 18), (0, .nameAndType 19 20), (0, u "flags"), (0, u "I"), (0, .fieldref 1 22), (0, .nameAndType 23 20), (0, u "tsn"), (0, .fieldref 1 25), (0, .nameAndType 26 20), (0, u "stream"), (0, .fieldref 1 28), (0, .nameAndType 29 20), (0, u "streamSequence"), (0, .fieldref 1 31), (0, .nameAndType 32 20), (0, u "payloadProtocol"), (0, .fieldref 1 34), (0, .nameAndType 35 14), (0, u "payload"), (63, u "(IIIII[B)V"), (12, u "ENDING"), (2, u "BEGINNING"), (1, u "WHOLE"), (1, u "HEADER_LENGTH"), (4, u "isBeginning"), (0, u "()Z")] 43

def k3c0 : Code := { maxStack := 2, maxLocals := 7, code := prog_93_method_1_code, exceptionTable := #[], attributes := #[] }
def k3m0 : Method := { name := "<init>", desc := "(IIIII[B)V", sig := { parameters := [.int, .int, .int, .int, .int, (.array .byte)], returnType := none }, accessFlags := 0, code := some k3c0 }
def k3c1 : Code := { maxStack := 2, maxLocals := 1, code := prog_93_method_3_code, exceptionTable := #[], attributes := #[] }
def k3m1 : Method := { name := "isBeginning", desc := "()Z", sig := { parameters := [], returnType := some .boolean }, accessFlags := 0, code := some k3c1 }
/-- com/example/pointcode/pointcode/sctp/DataChunk -/
def k3 : Class := { plain "com/example/pointcode/pointcode/sctp/DataChunk" (some 2) with
  accessFlags := 48
  interfaces := #[]
  cf := some (fileOf pool3 1 #[] #[{ accessFlags := 0, nameIndex := 9, descriptorIndex := 99, attributes := #[] }, { accessFlags := 0, nameIndex := 124, descriptorIndex := 125, attributes := #[] }] 48 6 #[] #[{ accessFlags := 18, nameIndex := 19, descriptorIndex := 20, attributes := #[] }, { accessFlags := 18, nameIndex := 23, descriptorIndex := 20, attributes := #[] }, { accessFlags := 18, nameIndex := 26, descriptorIndex := 20, attributes := #[] }, { accessFlags := 18, nameIndex := 29, descriptorIndex := 20, attributes := #[] }, { accessFlags := 18, nameIndex := 32, descriptorIndex := 20, attributes := #[] }, { accessFlags := 18, nameIndex := 35, descriptorIndex := 14, attributes := #[] }, { accessFlags := 24, nameIndex := 112, descriptorIndex := 20, attributes := #[] }, { accessFlags := 24, nameIndex := 115, descriptorIndex := 20, attributes := #[] }, { accessFlags := 24, nameIndex := 117, descriptorIndex := 20, attributes := #[] }, { accessFlags := 24, nameIndex := 119, descriptorIndex := 20, attributes := #[] }])
  fields := #[{ name := "flags", type := .int, accessFlags := 18, slot := 0, constantValue := 0 }, { name := "tsn", type := .int, accessFlags := 18, slot := 1, constantValue := 0 }, { name := "stream", type := .int, accessFlags := 18, slot := 2, constantValue := 0 }, { name := "streamSequence", type := .int, accessFlags := 18, slot := 3, constantValue := 0 }, { name := "payloadProtocol", type := .int, accessFlags := 18, slot := 4, constantValue := 0 }, { name := "payload", type := (.array .byte), accessFlags := 18, slot := 5, constantValue := 0 }, { name := "ENDING", type := .int, accessFlags := 24, slot := 0, constantValue := 0 }, { name := "BEGINNING", type := .int, accessFlags := 24, slot := 1, constantValue := 0 }, { name := "WHOLE", type := .int, accessFlags := 24, slot := 2, constantValue := 0 }, { name := "HEADER_LENGTH", type := .int, accessFlags := 24, slot := 3, constantValue := 0 }]
  methods := #[k3m0, k3m1]
  instanceTypes := #[.int, .int, .int, .int, .int, (.array .byte)]
  staticTypes := #[.int, .int, .int, .int]
  resolved := Array.replicate 169 none
  statics := none }

def pool4 : Array CpInfo := pool [(1, .class_ 2), (0, u "java/lang/Cloneable"), (0, .class_ 4), (0, u "java/lang/Object")] 2

/-- java/lang/Cloneable -/
def k4 : Class := { plain "java/lang/Cloneable" (some 0) with
  accessFlags := 1537
  interfaces := #[]
  cf := some (fileOf pool4 1 #[] #[] 1537 3 #[] #[])
  fields := #[]
  methods := #[]
  instanceTypes := #[]
  staticTypes := #[]
  resolved := Array.replicate 7 none
  statics := none }

def pool5 : Array CpInfo := pool [(1, u "java/io/Serializable"), (0, .class_ 1), (0, u "java/lang/Object"), (0, .class_ 3)] 3

/-- java/io/Serializable -/
def k5 : Class := { plain "java/io/Serializable" (some 0) with
  accessFlags := 1537
  interfaces := #[]
  cf := some (fileOf pool5 2 #[] #[] 1537 4 #[] #[])
  fields := #[]
  methods := #[]
  instanceTypes := #[]
  staticTypes := #[]
  resolved := Array.replicate 8 none
  statics := none }

/-- the primitive byte -/
def k6 : Class := { plain "byte" none with kind := .primitive 'B', accessFlags := 0x411 }
/-- [B -/
def k7 : Class := { plain "[B" (some 0) with kind := .array 6 .byte, interfaces := #[4, 5], accessFlags := 1041 }

/-- the primitive int -/
def k8 : Class := { plain "int" none with kind := .primitive 'I', accessFlags := 0x411 }
/-- [I -/
def k9 : Class := { plain "[I" (some 0) with kind := .array 8 .int, interfaces := #[4, 5], accessFlags := 1041 }

def heap : Heap := #[]
def classes : Array Class := #[k0, k1, k2, k3, k4, k5, k6, k7, k8, k9]
def interned : List (Array UInt16 × Addr) := []
def slotsUsed : Nat := 0
def theMethod : MethodId := ⟨1, 1⟩
def args0 : Array Value := #[.int 5, .int 5, .int 5, .int 5, .int 5, .int 5]
def aboutOver (below : List Frame) : State where
  vm := { classes := classes, interned := interned.toArray }
  heap := heap
  slotsUsed := slotsUsed
  threads := #[{ frames := .invoking theMethod args0 :: below }]
def below0 : List Frame := [.native { method := ⟨0, 0⟩, args := #[] }]
def about1 : State := aboutOver below0
def p0 : Program := .bare "" "" ""
def e0 : Env := launch0.env 0 0 0
theorem w_frames : about1.frames = Frame.invoking theMethod args0 :: below0 := rfl
set_option maxRecDepth 65536 in
theorem w_args : argsFit about1.vm theMethod args0 = true := by decide +kernel
set_option maxRecDepth 65536 in
theorem w_heap : heapFits about1 = true := by decide +kernel
set_option maxRecDepth 65536 in
theorem w_runnable : about1.curStatus? = some .runnable := by decide +kernel
set_option maxRecDepth 65536 in
theorem w_alone : about1.alone = true := by decide +kernel
set_option maxRecDepth 65536 in
theorem w_named : about1.methodNamed? x = some theMethod := by decide +kernel
set_option maxRecDepth 65536 in
theorem w_hears : about1.hears theMethod below0 = true := by decide +kernel
set_option maxRecDepth 65536 in
theorem w_ripe : about1.ripe theMethod args0 below0 = true := by decide +kernel
theorem w_running : about1.status = .running := rfl
set_option maxRecDepth 65536 in
theorem w_room : about1.hasRoom e0.platform room_1 = true :=
  launch0.hasRoom_least _ room_1 (by decide +kernel) (by decide +kernel) (by decide +kernel) (by decide +kernel) (by decide +kernel) (by decide +kernel)
theorem allAtoms_all (ts : List Jvm.Cond) (a : Array Jvm.Value) (st : Jvm.State) : (allAtoms ts).before a st = ts.all (fun c => c.before a st) := by
  induction ts with
  | nil => rfl
  | cons c t ih =>
    show (Jvm.Cond.and c (allAtoms t)).before a st = _
    rw [Jvm.Cond.before_and, ih, List.all_cons]
def words1 : List Jvm.Cond := Jvm.Cond.code x code maxLocals ret :: tables_1
/-- a 'code' word, met by the world's own term for the bytes: nothing is compared byte by byte -/
theorem code_word {y : MethodName} {bytes : ByteArray} {mx : Nat} {rt : Option FieldType} {a : Array Value} {s : State} {m : MethodId} {meth : Method} {c : Code} (h1 : s.methodNamed? y = some m) (h2 : s.vm.method? m = some meth) (h3 : meth.code = some c) (h4 : c.code = bytes)
    (h5 : (c.maxLocals == mx && c.exceptionTable.isEmpty && decide (c.maxStack ≤ mostOperands) && decide (meth.sig.returnType = rt) && !meth.locks && decide (parseMethodDescriptor y.desc = some meth.sig)) = true) : (Jvm.Cond.code y bytes mx rt).before a s = true := by
  simp only [Bool.and_eq_true, beq_iff_eq, Bool.not_eq_true', decide_eq_true_eq] at h5
  obtain ⟨⟨⟨⟨⟨g1, g2⟩, g3⟩, g4⟩, g5⟩, g6⟩ := h5
  simp [Cond.before, Cond.holds, Cond.value, h1, h2, h3, h4, g1, g2, g3, g4, g5, g6]
def isCode : Jvm.Cond → Bool
  | .code _ _ _ _ => true
  | _ => false
theorem all_split {L : List Jvm.Cond} {P : Jvm.Cond → Bool} (h1 : L.all (fun c => isCode c || P c) = true) (h2 : ∀ c ∈ L.filter isCode, P c = true) : L.all P = true := by
  refine List.all_eq_true.mpr fun c hc => ?_
  have h := List.all_eq_true.mp h1 c hc
  rcases Bool.eq_false_or_eq_true (isCode c) with hi | hi
  · exact h2 c (List.mem_filter.mpr ⟨hc, hi⟩)
  · simpa [hi] using h
set_option maxRecDepth 65536 in
theorem w_c0 : (Jvm.Cond.code x code maxLocals ret).before args0 about1 = true := code_word (m := ⟨1, 1⟩) (meth := k1m1) (c := k1c1) (by decide +kernel) rfl rfl rfl (by decide +kernel)
set_option maxRecDepth 65536 in
theorem w_c1 : (Jvm.Cond.code ({ cls := "com/example/pointcode/pointcode/sctp/DataChunk", name := "<init>", desc := "(IIIII[B)V" } : Jvm.MethodName) prog_93_method_1_code (7 : Nat) (Option.none : Option Jvm.ClassFile.FieldType)).before args0 about1 = true := code_word (m := ⟨3, 0⟩) (meth := k3m0) (c := k3c0) (by decide +kernel) rfl rfl rfl (by decide +kernel)
set_option maxRecDepth 65536 in
theorem w_c2 : (Jvm.Cond.code ({ cls := "java/lang/Record", name := "<init>", desc := "()V" } : Jvm.MethodName) jdk_30_method_1_code (1 : Nat) (Option.none : Option Jvm.ClassFile.FieldType)).before args0 about1 = true := code_word (m := ⟨2, 0⟩) (meth := k2m0) (c := k2c0) (by decide +kernel) rfl rfl rfl (by decide +kernel)
set_option maxRecDepth 65536 in
theorem w_c3 : (Jvm.Cond.code ({ cls := "java/lang/Object", name := "<init>", desc := "()V" } : Jvm.MethodName) object_method_1_code (1 : Nat) (Option.none : Option Jvm.ClassFile.FieldType)).before args0 about1 = true := code_word (m := ⟨0, 0⟩) (meth := k0m0) (c := k0c0) (by decide +kernel) rfl rfl rfl (by decide +kernel)
set_option maxRecDepth 65536 in
theorem w_c4 : (Jvm.Cond.code ({ cls := "com/example/pointcode/pointcode/sctp/DataChunk", name := "isBeginning", desc := "()Z" } : Jvm.MethodName) prog_93_method_3_code (1 : Nat) (Option.some Jvm.ClassFile.FieldType.boolean)).before args0 about1 = true := code_word (m := ⟨3, 1⟩) (meth := k3m1) (c := k3c1) (by decide +kernel) rfl rfl rfl (by decide +kernel)
def codes1 : List Jvm.Cond := [Jvm.Cond.code x code maxLocals ret, Jvm.Cond.code ({ cls := "com/example/pointcode/pointcode/sctp/DataChunk", name := "<init>", desc := "(IIIII[B)V" } : Jvm.MethodName) prog_93_method_1_code (7 : Nat) (Option.none : Option Jvm.ClassFile.FieldType), Jvm.Cond.code ({ cls := "java/lang/Record", name := "<init>", desc := "()V" } : Jvm.MethodName) jdk_30_method_1_code (1 : Nat) (Option.none : Option Jvm.ClassFile.FieldType), Jvm.Cond.code ({ cls := "java/lang/Object", name := "<init>", desc := "()V" } : Jvm.MethodName) object_method_1_code (1 : Nat) (Option.none : Option Jvm.ClassFile.FieldType), Jvm.Cond.code ({ cls := "com/example/pointcode/pointcode/sctp/DataChunk", name := "isBeginning", desc := "()Z" } : Jvm.MethodName) prog_93_method_3_code (1 : Nat) (Option.some Jvm.ClassFile.FieldType.boolean)]
set_option maxRecDepth 65536 in
theorem codes_eq : words1.filter isCode = codes1 := rfl
theorem w_codes : ∀ c ∈ words1.filter isCode, c.before args0 about1 = true := by
  rw [codes_eq]
  intro c hc
  simp only [codes1, List.mem_cons, List.not_mem_nil, or_false] at hc
  rcases hc with rfl | rfl | rfl | rfl | rfl
  · exact w_c0
  · exact w_c1
  · exact w_c2
  · exact w_c3
  · exact w_c4
set_option maxRecDepth 65536 in
theorem w_t1 : (words1.take 24).all (fun c => isCode c || c.before args0 about1) = true := by decide +kernel
set_option maxRecDepth 65536 in
theorem w_t2 : (words1.drop 24).all (fun c => isCode c || c.before args0 about1) = true := by decide +kernel
theorem w_tables : (allAtoms (Jvm.Cond.code x code maxLocals ret :: tables_1)).before args0 about1 = true := by
  rw [allAtoms_all]
  show words1.all (fun c => c.before args0 about1) = true
  refine all_split ?_ w_codes
  rw [← List.take_append_drop 24 words1, List.all_append, w_t1, w_t2]
  rfl
set_option maxRecDepth 65536 in
theorem w_case : (Jvm.Cond.and given_1 narrow_1).before args0 about1 = true := by decide +kernel
theorem w_applies : (headSpec (Jvm.Cond.code x code maxLocals ret :: tables_1) room_1).applies x e0.platform about1 = true :=
  (Spec.applies_iff w_frames).mpr ⟨w_running, w_runnable, w_alone, w_named, w_hears, w_ripe, w_room, w_tables⟩
theorem atStart : AtStart classFile x code maxLocals ret World_1 tables_1 room_1 Calls_1 rest_1 Pre_1 launch0 p0 e0 about1 theMethod args0 below0 :=
  ⟨lists_1, trivial, launch0.admits_env _ _ _, launch0.least_env, fairChoices_fair.cas, fairChoices_fair.clock, w_frames, w_args, w_heap, w_applies, trivial, trivial, w_case⟩
end start1
theorem witness_1 : WitnessClaimed_1 := ⟨start1.p0, start1.e0, start1.about1, start1.theMethod, start1.args0, start1.below0, start1.atStart⟩
end Jvm.Pilot.@@N@@
