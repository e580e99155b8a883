import PyProof.Rows.All
import Wide.All
import OpenK.AllK
import Wide.FinOn
import PySem.Challenge.RW_ln0045_01
open PySem PySem.W PyProof.Rows
set_option Elab.async false
set_option maxRecDepth 100000
set_option maxHeartbeats 8000000
set_option linter.unusedVariables false
set_option compiler.extract_closed false
namespace Mine
section
theorem lf0 : sreFenced PySem.Challenge.rw_ln0045_01.row.prog.main = true := by
  try rw [PySem.W.Fast.te11788848310118352699]
  kernel_rfl
theorem lf1 : ((moduleNames PySem.Challenge.rw_ln0045_01.row.prog.main.body).isEmpty || lookedIntoSs (moduleNames PySem.Challenge.rw_ln0045_01.row.prog.main.body) PySem.Challenge.rw_ln0045_01.row.prog.main.body) = true := by
  try rw [PySem.W.Fast.te9807087744658564304]
  try rw [PySem.W.Fast.te12862048085361865435]
  kernel_rfl
theorem lf2 : namesResolve PySem.Challenge.rw_ln0045_01.row.prog = true := by
  try rw [PySem.W.Fast.te8377067652309620493]
  kernel_rfl
theorem lf3 : (PySem.Challenge.rw_ln0045_01.row.prog.boundNames.all fun n => !worldNames.contains n) = true := by
  try rw [PySem.W.Fast.te18344453789297297638]
  try rw [PySem.W.Fast.te14412699480532031325]
  try rw [PySem.W.Fast.te3471404346716756564]
  kernel_rfl
theorem lf4 : noRoadLSs { strict := !(importedModules PySem.Challenge.rw_ln0045_01.row.prog.main.body).all cThrough.contains, foot := none, bare := List.filter (readsOut PySem.Challenge.rw_ln0045_01.row.prog PySem.Challenge.rw_ln0045_01.row.prog.main.body) [Str.ofString "vars", Str.ofString "dir", Str.ofString "locals"] } PySem.Challenge.rw_ln0045_01.row.prog.main.body = true := by
  try rw [PySem.W.Fast.te8326940854005059898]
  try rw [PySem.W.Fast.te5923862056798008813]
  try rw [PySem.W.Fast.te17691160309236699985]
  try rw [PySem.W.Fast.te13343964577679436407]
  try rw [PySem.W.Fast.te3471404346716756564]
  kernel_rfl
theorem lf5 : (namesMeet PySem.Challenge.rw_ln0045_01.row.prog PySem.Challenge.rw_ln0045_01.row.prog.main.body fun x n => attrL n) = true := by
  try rw [PySem.W.Fast.te17119622794617984870]
  try rw [PySem.W.Fast.te17868728402115742887]
  kernel_rfl
theorem lf6 : PySem.Challenge.rw_ln0045_01.row.loose.isEmpty = true := by
  kernel_rfl
theorem lf7 : PySem.Challenge.rw_ln0045_01.row.makers.isEmpty = true := by
  kernel_rfl
theorem lf8 : (List.isEmpty PySem.Challenge.rw_ln0045_01.row.records || PySem.Challenge.rw_ln0045_01.row.raises.all fun ct => ct.fst != ExcName.builtin "AttributeError" && ct.fst != ExcName.builtin "TypeError") = true := by
  try rw [PySem.W.Fast.sDec_eq]
  kernel_rfl
theorem lf10 : decide (List.map (fun x => x.fst) PySem.Challenge.rw_ln0045_01.row.records).Nodup = true := by
  kernel_rfl
theorem lf11 : (List.all PySem.Challenge.rw_ln0045_01.row.records fun x => !x.fst.opensWith (Str.ofString "__") && !builtinNamed x.fst && PySem.Challenge.rw_ln0045_01.row.prog.boundNames.contains x.fst && x.snd.all fun f => !f.fst.opensWith (Str.ofString "__")) = true := by
  try rw [PySem.W.Fast.te18344453789297297638]
  try rw [PySem.W.Fast.named_eq]
  try rw [PySem.W.Fast.te3471404346716756564]
  kernel_rfl
theorem lf12 : PySem.Challenge.rw_ln0045_01.row.solid = true := by
  try rw [PySem.W.Fast.te13582783067957832011]
  kernel_rfl
theorem lf13 : PySem.Challenge.rw_ln0045_01.row.pre.litsOk = true := by
  kernel_rfl
theorem lf14 : PySem.Challenge.rw_ln0045_01.row.post.litsOk = true := by
  kernel_rfl
theorem lf15 : (PySem.Challenge.rw_ln0045_01.row.raises.all fun x => x.snd.litsOk) = true := by
  kernel_rfl
theorem lf17 : (PySem.Challenge.rw_ln0045_01.row.within.all fun i => decide (i < PySem.Challenge.rw_ln0045_01.row.args.length)) = true := by
  kernel_rfl
theorem lf18 : Option.all (fun i => decide (i < PySem.Challenge.rw_ln0045_01.row.args.length)) PySem.Challenge.rw_ln0045_01.row.same = true := by
  kernel_rfl
theorem lf19 : PySem.Challenge.rw_ln0045_01.row.prog.boundNames.contains PySem.Challenge.rw_ln0045_01.row.name = true := by
  try rw [PySem.W.Fast.te18344453789297297638]
  try rw [PySem.W.Fast.te3471404346716756564]
  kernel_rfl
theorem lf20 : (!startupNames.contains PySem.Challenge.rw_ln0045_01.row.name) = true := by
  try rw [PySem.W.Fast.te12749700546528644094]
  try rw [PySem.W.Fast.te3471404346716756564]
  kernel_rfl
theorem lf21 : decide (PySem.Challenge.rw_ln0045_01.foot ≤ (behindTheImports PySem.Challenge.rw_ln0045_01.prog).length) = true := by
  kernel_rfl
theorem lf22 : PySem.Challenge.rw_ln0045_01.footing.all footLine = true := by
  try rw [PySem.W.Fast.te10501279942588096481]
  kernel_rfl
theorem lf23 : noClassBlock PySem.Challenge.rw_ln0045_01.prog PySem.Challenge.rw_ln0045_01.footing = true := by
  try rw [PySem.W.Fast.te8179353310426384613]
  kernel_rfl
theorem lf24 : Option.all (fun n => decide (63 ≤ n)) PySem.Challenge.rw_ln0045_01.most = true := by
  kernel_rfl
theorem lf25 : Option.all (fun n => decide (2 ^ 63 ≤ n)) PySem.Challenge.rw_ln0045_01.bound = true := by
  kernel_rfl
theorem lf26 : noRoadLSs { strict := true, foot := some PySem.Challenge.rw_ln0045_01.bound', writes := PySem.Challenge.rw_ln0045_01.writes, may := PySem.Challenge.rw_ln0045_01.may } PySem.Challenge.rw_ln0045_01.footing = true := by
  try rw [PySem.W.Fast.te8326940854005059898]
  kernel_rfl
theorem lf27 : defStands PySem.Challenge.rw_ln0045_01.about PySem.Challenge.rw_ln0045_01.above = true := by
  try rw [PySem.W.Fast.te9558739934217749035]
  kernel_rfl
theorem lf28 : PySem.Challenge.rw_ln0045_01.namesIt = true := by
  try rw [PySem.W.Fast.te16286561074155671207]
  kernel_rfl
theorem lf29 : ([Str.ofString "type", Str.ofString "isinstance", Str.ofString "issubclass", Str.ofString "getattr", Str.ofString "hasattr"].all fun n => PySem.Challenge.rw_ln0045_01.about != [n]) = true := by
  try rw [PySem.W.Fast.sDec_eq]
  kernel_rfl
theorem lf30 : (PySem.Challenge.rw_ln0045_01.bound'.all fun n => !builtinNamed n || PySem.Challenge.rw_ln0045_01.about == [n] || !PySem.Challenge.rw_ln0045_01.reads n) = true := by
  try rw [PySem.W.Fast.te6984425678791042302]
  try rw [PySem.W.Fast.named_eq]
  try rw [PySem.W.Fast.sDec_eq]
  kernel_rfl
theorem lf31 : (!PySem.Challenge.rw_ln0045_01.writes || (List.flatMap importedNames PySem.Challenge.rw_ln0045_01.prog.main.body).all fun n => !PySem.Challenge.rw_ln0045_01.reads n) = true := by
  try rw [PySem.W.Fast.te6984425678791042302]
  try rw [PySem.W.Fast.te12879404354523853263]
  kernel_rfl
theorem lf32 : ((List.flatMap importedNames PySem.Challenge.rw_ln0045_01.prog.main.body).all fun n => !PySem.Challenge.rw_ln0045_01.reads n || (drawsOf n PySem.Challenge.rw_ln0045_01.prog.main.body).all fun mn => mn.snd != Str.ofString "attrgetter" && mn.snd != Str.ofString "methodcaller") = true := by
  try rw [PySem.W.Fast.te6984425678791042302]
  try rw [PySem.W.Fast.te482687673346738481]
  try rw [PySem.W.Fast.te12879404354523853263]
  try rw [PySem.W.Fast.sDec_eq]
  kernel_rfl
theorem lf33 : (namesMeet PySem.Challenge.rw_ln0045_01.prog PySem.Challenge.rw_ln0045_01.footing fun sc n => (![Str.ofString "type", Str.ofString "isinstance", Str.ofString "issubclass", Str.ofString "getattr", Str.ofString "hasattr"].contains n || List.lookup n sc.names == some NameKind.globalImplicit) && (PySem.Challenge.rw_ln0045_01.may != some n || sc.kind == ScopeKind.module || List.lookup n sc.names == some NameKind.globalImplicit)) = true := by
  try rw [PySem.W.Fast.te17119622794617984870]
  try rw [PySem.W.Fast.te3471404346716756564]
  try rw [PySem.W.Fast.sDec_eq]
  kernel_rfl
theorem lf34 : PySem.Challenge.rw_ln0045_01.own.contains PySem.Challenge.rw_ln0045_01.name = true := by
  try rw [PySem.W.Fast.te10792542408131684335]
  try rw [PySem.W.Fast.te3471404346716756564]
  kernel_rfl
theorem lf35 : (PySem.Challenge.rw_ln0045_01.own.eraseDups.length == PySem.Challenge.rw_ln0045_01.own.length) = true := by
  try rw [PySem.W.Fast.te10792542408131684335]
  try rw [PySem.W.Fast.sDec_eq]
  kernel_rfl
theorem lf36 : (PySem.Challenge.rw_ln0045_01.own.all fun n => !builtinNamed n) = true := by
  try rw [PySem.W.Fast.te10792542408131684335]
  try rw [PySem.W.Fast.named_eq]
  kernel_rfl
theorem lf37 : (namesMeet PySem.Challenge.rw_ln0045_01.prog PySem.Challenge.rw_ln0045_01.above fun x n => !PySem.Challenge.rw_ln0045_01.own.contains n) = true := by
  try rw [PySem.W.Fast.te17119622794617984870]
  try rw [PySem.W.Fast.te10792542408131684335]
  try rw [PySem.W.Fast.te3471404346716756564]
  kernel_rfl
theorem lf38 : (namesMeet PySem.Challenge.rw_ln0045_01.prog PySem.Challenge.rw_ln0045_01.footing fun sc n => sc.kind == ScopeKind.module || List.lookup n sc.names != some NameKind.globalExplicit) = true := by
  try rw [PySem.W.Fast.te17119622794617984870]
  try rw [PySem.W.Fast.sDec_eq]
  kernel_rfl
theorem said0 : PySem.Challenge.rw_ln0045_01.wellSaid = true := by
  unfold OpenLaw.wellSaid
  repeat' (with_reducible refine look_both ?_ ?_)
  all_goals first
    | (unfold OpenRow.wellSaid; repeat' (with_reducible refine look_both ?_ ?_))
    | skip
  all_goals first
    | (unfold OpenRow.partSaid; repeat' (with_reducible refine look_both ?_ ?_))
    | skip
  all_goals first
    | (unfold looksOpen; repeat' (with_reducible refine look_both ?_ ?_))
    | skip
  all_goals first
    | with_reducible exact lf0
    | with_reducible exact lf1
    | with_reducible exact lf2
    | with_reducible exact lf3
    | with_reducible exact lf4
    | with_reducible exact lf5
    | with_reducible exact lf6
    | with_reducible exact lf7
    | with_reducible exact lf8
    | with_reducible exact lf10
    | with_reducible exact lf11
    | with_reducible exact lf12
    | with_reducible exact lf13
    | with_reducible exact lf14
    | with_reducible exact lf15
    | with_reducible exact lf17
    | with_reducible exact lf18
    | with_reducible exact lf19
    | with_reducible exact lf20
    | with_reducible exact lf21
    | with_reducible exact lf22
    | with_reducible exact lf23
    | with_reducible exact lf24
    | with_reducible exact lf25
    | with_reducible exact lf26
    | with_reducible exact lf27
    | with_reducible exact lf28
    | with_reducible exact lf29
    | with_reducible exact lf30
    | with_reducible exact lf31
    | with_reducible exact lf32
    | with_reducible exact lf33
    | with_reducible exact lf34
    | with_reducible exact lf35
    | with_reducible exact lf36
    | with_reducible exact lf37
    | with_reducible exact lf38
    | kernel_rfl
end
section
open TablesWhole
abbrev pw := PySem.Challenge.pw_ln0045_01
def clsScope : Scope := match pw.main.body with | [_, _, .ClassDef _ _ _ _ _ _ sc _ _ _ _, _, _] => sc | _ => pw.main.scope
def clsBody : List Stmt := match pw.main.body with | [_, _, .ClassDef _ _ _ b _ _ _ _ _ _ _, _, _] => b | _ => []
def noPos : Pos := match pw.main.body with | [_, _, .ClassDef _ _ _ _ _ _ _ _ _ _ p, _, _] => p | _ => ⟨0,0,0,0⟩
def stAt (i : Nat) : Stmt := pw.main.body.getD i (.Pass noPos)
theorem decT : declSs true clsBody = [] := by rfl
theorem decF : declSs false clsBody = [] := by rfl
theorem wSs_nil {α : Type} {A : Alg α} {top : Scope} {cx : TablesWhole.Ctx} {sc : Scope} : wSs A top cx sc [] = A.unit := rfl
theorem wSs_cons {α : Type} {A : Alg α} {top : Scope} {cx : TablesWhole.Ctx} {sc : Scope} {s : Stmt} {r : List Stmt} : wSs A top cx sc (s :: r) = A.both (wS A top cx sc s) (wSs A top cx sc r) := rfl
theorem wS_cls {α : Type} {A : Alg α} {top : Scope} {cx : TablesWhole.Ctx} {sc : Scope} {nm : PySem.Str} {bases : List PySem.Expr} {keywords} {body : List Stmt} {decorators tparams own tscope bind x pos} : wS A top cx sc (.ClassDef nm bases keywords body decorators tparams own tscope bind x pos) =
    A.both (wClassHead A cx sc bases keywords decorators tparams own tscope bind pos (declSs true body)) (wSs A top ⟨own, declSs false body, declSs true body, TablesWhole.under tparams tscope cx.encl, none⟩ own body) := rfl
theorem wSs_app {α : Type} {A : Alg α} {top : Scope} {cx : TablesWhole.Ctx} {sc : Scope} (hu : ∀ x, A.both A.unit x = x) (ha : ∀ x y z, A.both (A.both x y) z = A.both x (A.both y z)) : ∀ l r : List Stmt, wSs A top cx sc (l ++ r) = A.both (wSs A top cx sc l) (wSs A top cx sc r)
  | [], r => by rw [List.nil_append, wSs_nil, hu]
  | s :: l, r => by
    rw [List.cons_append, wSs_cons, wSs_cons, wSs_app hu ha l r, ha]
theorem h_app {top : Scope} {cx : TablesWhole.Ctx} {sc : Scope} (l r : List Stmt) (hl : wSs holds top cx sc l = true) (hr : wSs holds top cx sc r = true) : wSs holds top cx sc (l ++ r) = true := by
  rw [wSs_app (fun x => by simp [holds]) (fun x y z => by simp [holds, Bool.and_assoc])]
  simp [holds] at hl hr ⊢
  exact ⟨hl, hr⟩
theorem g_app {top : Scope} {cx : TablesWhole.Ctx} {sc : Scope} (l r : List Stmt) (hl : wSs gather top cx sc l = []) (hr : wSs gather top cx sc r = []) : wSs gather top cx sc (l ++ r) = [] := by
  rw [wSs_app (fun x => by simp [gather]) (fun x y z => by simp [gather, List.append_assoc])]
  rw [hl, hr]; rfl
abbrev cxC : TablesWhole.Ctx := ⟨clsScope, [], [], [], none⟩
theorem p0 : wSs holds pw.main.scope cxC clsScope (clsBody.take 60) = true := by rw [PySem.W.Fast.te16421684217811934046]; kernel_rfl
theorem p1 : wSs holds pw.main.scope cxC clsScope ((clsBody.drop 60).take 60) = true := by rw [PySem.W.Fast.te16421684217811934046]; kernel_rfl
theorem p2 : wSs holds pw.main.scope cxC clsScope (((clsBody.drop 60).drop 60).take 60) = true := by rw [PySem.W.Fast.te16421684217811934046]; kernel_rfl
theorem p3 : wSs holds pw.main.scope cxC clsScope (((clsBody.drop 60).drop 60).drop 60) = true := by rw [PySem.W.Fast.te16421684217811934046]; kernel_rfl
theorem pAll : wSs holds pw.main.scope cxC clsScope clsBody = true := by
  rw [← List.take_append_drop 60 clsBody]
  refine h_app _ _ p0 ?_
  rw [← List.take_append_drop 60 (clsBody.drop 60)]
  refine h_app _ _ p1 ?_
  rw [← List.take_append_drop 60 ((clsBody.drop 60).drop 60)]
  exact h_app _ _ p2 p3
theorem ofEmpty {α : Type} {l : List α} (h : l.isEmpty = true) : l = [] := List.isEmpty_iff.mp h
theorem g0 : (wSs gather pw.main.scope cxC clsScope (clsBody.take 60)).isEmpty = true := by rw [PySem.W.Fast.te16421684217811934046, PySem.W.Fast.te12652042256554560961]; kernel_rfl
theorem g1 : (wSs gather pw.main.scope cxC clsScope ((clsBody.drop 60).take 60)).isEmpty = true := by rw [PySem.W.Fast.te16421684217811934046, PySem.W.Fast.te12652042256554560961]; kernel_rfl
theorem g2 : (wSs gather pw.main.scope cxC clsScope (((clsBody.drop 60).drop 60).take 60)).isEmpty = true := by rw [PySem.W.Fast.te16421684217811934046, PySem.W.Fast.te12652042256554560961]; kernel_rfl
theorem g3 : (wSs gather pw.main.scope cxC clsScope (((clsBody.drop 60).drop 60).drop 60)).isEmpty = true := by rw [PySem.W.Fast.te16421684217811934046, PySem.W.Fast.te12652042256554560961]; kernel_rfl
end
section
open TablesWhole
theorem gAll : wSs gather pw.main.scope cxC clsScope clsBody = [] := by
  rw [← List.take_append_drop 60 clsBody]
  refine g_app _ _ (ofEmpty g0) ?_
  rw [← List.take_append_drop 60 (clsBody.drop 60)]
  refine g_app _ _ (ofEmpty g1) ?_
  rw [← List.take_append_drop 60 ((clsBody.drop 60).drop 60)]
  exact g_app _ _ (ofEmpty g2) (ofEmpty g3)
abbrev cxT : TablesWhole.Ctx := ⟨pw.main.scope, [], [], [], none⟩
theorem body_is : pw.main.body = [stAt 0, stAt 1, stAt 2, stAt 3, stAt 4] := by rfl
theorem cls_is : stAt 2 = .ClassDef (PySem.Str.ofString "MPU") [] [] clsBody [] [] clsScope none (PySem.Str.ofString "MPU") (match stAt 2 with | .ClassDef _ _ _ _ _ _ _ _ _ x _ => x | _ => default) noPos := by rfl
theorem both_t {a b : Bool} (ha : a = true) (hb : b = true) : holds.both a b = true := by subst ha; subst hb; rfl
theorem both_g {a b : List PySem.Str} (ha : a = []) (hb : b = []) : gather.both a b = [] := by subst ha; subst hb; rfl
theorem g_cls : wS gather pw.main.scope cxT pw.main.scope (stAt 2) = [] := by
  rw [cls_is, wS_cls, decT, decF]
  exact both_g (ofEmpty (by rw [PySem.W.Fast.te7474826911137705502, PySem.W.Fast.te12652042256554560961]; kernel_rfl)) gAll
theorem h_cls : wS holds pw.main.scope cxT pw.main.scope (stAt 2) = true := by
  rw [cls_is, wS_cls, decT, decF]
  exact both_t (by rw [PySem.W.Fast.te7474826911137705502]; kernel_rfl) pAll
theorem g_0 : (wS gather pw.main.scope cxT pw.main.scope (stAt 0)).isEmpty = true := by kernel_rfl
theorem g_1 : (wS gather pw.main.scope cxT pw.main.scope (stAt 1)).isEmpty = true := by kernel_rfl
theorem g_3 : (wS gather pw.main.scope cxT pw.main.scope (stAt 3)).isEmpty = true := by kernel_rfl
theorem g_4 : (wS gather pw.main.scope cxT pw.main.scope (stAt 4)).isEmpty = true := by kernel_rfl
theorem told : wSs gather pw.main.scope cxT pw.main.scope pw.main.body = [] := by
  rw [body_is]
  simp only [wSs_cons, wSs_nil]
  exact both_g (ofEmpty g_0) (both_g (ofEmpty g_1) (both_g g_cls (both_g (ofEmpty g_3) (both_g (ofEmpty g_4) rfl))))
theorem h_0 : (wS holds pw.main.scope cxT pw.main.scope (stAt 0)) = true := by kernel_rfl
theorem h_1 : (wS holds pw.main.scope cxT pw.main.scope (stAt 1)) = true := by kernel_rfl
theorem h_3 : (wS holds pw.main.scope cxT pw.main.scope (stAt 3)) = true := by kernel_rfl
theorem h_4 : (wS holds pw.main.scope cxT pw.main.scope (stAt 4)) = true := by kernel_rfl
theorem hBody : wSs holds pw.main.scope cxT pw.main.scope pw.main.body = true := by
  rw [body_is]
  simp only [wSs_cons, wSs_nil]
  exact both_t h_0 (both_t h_1 (both_t h_cls (both_t h_3 (both_t h_4 rfl))))
theorem e1 : noTwice pw.main.scope = true := by rw [PySem.W.Fast.te8331962902438777018]; kernel_rfl
theorem all3_t {a b c : Bool} (ha : a = true) (hb : b = true) (hc : c = true) : holds.all [a, b, c] = true := by subst ha; subst hb; subst hc; rfl
theorem all4_t {a b c d : Bool} (ha : a = true) (hb : b = true) (hc : c = true) (hd : d = true) : holds.all [a, b, c, d] = true := by subst ha; subst hb; subst hc; subst hd; rfl
theorem check_t {x : String} {sc : Scope} {n : PySem.Str} {ok : Bool} (h : ok = true) : holds.check x sc n ok = true := h
theorem enter_t {sc : Scope} : holds.enter sc = true := rfl
theorem map_t {β : Type} {f : β → Bool} {l : List β} (h : l = []) : holds.all (l.map f) = true := by subst h; rfl
theorem mod_of {m : PySem.Module} (h0 : wSs gather m.scope ⟨m.scope, [], [], [], none⟩ m.scope m.body = []) (h1 : noTwice m.scope = true) (h2 : wSs holds m.scope ⟨m.scope, [], [], [], none⟩ m.scope m.body = true) : wModule holds m = true := by
  unfold wModule
  rw [h0]
  exact all3_t enter_t (check_t h1) h2
theorem prog_of {p : Program} (h : wModule holds p.main = true) (h1 : p.modules = []) (h2 : p.parses = []) (h3 : p.harvested = []) : p.tablesWhole = true := by
  unfold Program.tablesWhole wProgram
  exact all4_t h (map_t h1) (map_t h2) (map_t h3)
theorem tables : pw.tablesWhole = true := prog_of (mod_of told e1 hBody) rfl rfl rfl
end
open PySem.Calls
section
noncomputable def s8 (l : List Nat) : Str := ⟨⟨l⟩⟩
noncomputable def fileS : Str := (s8 [47, 99, 108, 97, 105, 109, 47, 99, 117, 116, 46, 112, 121])
noncomputable def modS : Str := (s8 [112, 121, 54, 53, 46, 100, 101, 118, 105, 99, 101, 115, 46, 109, 112, 117, 54, 53, 48, 50])
noncomputable def mpuS : Str := (s8 [77, 80, 85])
noncomputable def tTup : Value := .type PySem.W.SL.s2766695959194262286x5
noncomputable def tCode : Value := .type PySem.W.SL.s5856160107412720595x4
noncomputable def tFun : Value := .type PySem.W.SL.s7174869446012820540x8
noncomputable def tDict : Value := .type PySem.W.SL.s14018661285674007319x4
noncomputable def tFrame : Value := .type PySem.W.SL.s658472552662922059x5
noncomputable def tList : Value := .type PySem.W.SL.s9222952809800978799x4
noncomputable def tupO (l : List Value) : Obj := ⟨tTup, none, .seq ⟨l⟩ 0, ⟨[]⟩⟩
noncomputable def fldO (l : List Value) : Obj := ⟨.none, none, .fields ⟨l⟩, ⟨[]⟩⟩
noncomputable def dicO (l : List DictEntry) (n : Nat) : Obj := ⟨tDict, none, .dict ⟨l⟩ n, ⟨[]⟩⟩
noncomputable def lisO (l : List Value) : Obj := ⟨tList, none, .seq ⟨l⟩ 0, ⟨[]⟩⟩
noncomputable def codO (b T nv na line : Nat) (nm q : Str) : Obj := ⟨tCode, none, .fields ⟨[.str nm T, .str q (T + 1), .str fileS (T + 2), .int line 0, .int na 0, .int 0 0, .int 0 0, .int 3 0, .ref b, .bool true, .int 181 0, .ref (b + 1), .none, .ref (b + 2), .ref (b + 3), .ref (b + 4), .int (T + 3 + nv : Nat) 0, .int line 0, .str fileS (T + 4 + nv)]⟩, ⟨[]⟩⟩
noncomputable def cod0 (T : Nat) (a b line : Nat) (q : Str) (tk : Nat) : Obj := ⟨tCode, none, .fields ⟨[.str q T, .str q (T + 1), .str fileS (T + 2), .int line 0, .int 0 0, .int 0 0, .int 0 0, .int 0 0, .ref a, .bool false, .int tk 0, .ref b, .none, .none, .none, .none, .int (T + 3 : Nat) 0, .int line 0, .str fileS (T + 4)]⟩, ⟨[]⟩⟩
noncomputable def fun0 (nm q : Str) (a : Arguments) (bd : List Stmt) (sc : Scope) : Obj := ⟨.none, none, .func ⟨nm, q, a, .stmts bd, sc, 0, [], .none, .none, .none, .none, none, .none, .none, 0⟩, ⟨[]⟩⟩
noncomputable def fun1 (c : Nat) (mv dv : Value) (nm q : Str) (a : Arguments) (bd : List Stmt) (sc : Scope) : Obj := ⟨tFun, none, .func ⟨nm, q, a, .stmts bd, sc, 3, [], dv, .none, .none, mv, none, .ref c, .none, 0⟩, ⟨[]⟩⟩
noncomputable def strsV (T : Nat) : List Str → List Value
  | [] => []
  | s :: r => .str s T :: strsV (T + 1) r
noncomputable def isLoc : NameKind → Bool
  | .local => true
  | .cell => true
  | _ => false
noncomputable def isCel : NameKind → Bool
  | .cell => true
  | _ => false
noncomputable def celsOf : List (Str × NameKind) → List Str
  | [] => []
  | (s, k) :: r => match isCel k with
    | true => s :: celsOf r
    | false => celsOf r
noncomputable def locsOf : List (Str × NameKind) → List Str
  | [] => []
  | (s, k) :: r => match isLoc k with
    | true => s :: locsOf r
    | false => locsOf r
noncomputable def lenN {α : Type} : List α → Nat
  | [] => 0
  | _ :: r => lenN r + 1
noncomputable def nvOf (sc : Scope) : Nat := lenN (locsOf sc.names) + lenN (celsOf sc.names)
noncomputable def sevenO (b T : Nat) (mv dv : Value) (nm q : Str) (a : Arguments) (bd : List Stmt) (sc : Scope) (line : Nat) (more : List Obj) : List Obj :=
  tupO [] :: fldO [] :: tupO (strsV (T + 3) (locsOf sc.names)) :: tupO (strsV (T + 3 + lenN (locsOf sc.names)) (celsOf sc.names)) :: fun0 nm q a bd sc :: codO b T (nvOf sc) (lenN a.args) line nm q :: fun1 (b + 5) mv dv nm q a bd sc :: more
noncomputable def qualM (nm : Str) : Str := ⟨⟨77 :: 80 :: 85 :: 46 :: nm.cps.toList⟩⟩
noncomputable def modV : Value := .str modS 194
noncomputable def insA : List Nat := [372, 379, 365, 365, 365, 386, 393, 365, 400, 407, 414, 365, 365, 421, 428, 365, 435, 442, 365, 365, 365, 449, 456, 365, 463, 470, 365, 365, 365, 477, 484, 365, 491, 498, 365, 365, 505, 512, 519, 365, 526, 533, 540, 365, 547, 554, 561, 365, 568, 575, 365, 365, 365, 582, 589, 365, 596, 603, 365, 365, 365, 610, 617, 365, 624, 631, 365, 365, 365, 638, 645, 365, 652, 659, 666, 365, 673, 680, 687, 365, 694, 701, 365, 365, 365, 708, 715, 365, 722, 729, 365, 365, 365, 736, 743, 365, 750, 757, 365, 365, 365, 764, 771, 365, 778, 785, 792, 365, 799, 806, 813, 365, 820, 827, 365, 365, 365, 834, 841, 365, 848, 855, 365, 365, 365, 862, 869, 365, 365, 876, 365, 365, 883, 890, 897, 365, 904, 365, 911, 365, 918, 925, 932, 365, 939, 946, 365, 365, 953, 960, 967, 365, 974, 981, 988, 365, 365, 995, 365, 365, 1002, 1009, 1016, 365, 1023, 1030, 1037, 365, 1044, 1051, 1058, 365, 1065, 1072, 1079, 365, 1086, 1093, 365, 365, 1100, 1107, 1114, 365, 1121, 1128, 1135, 365, 1142, 1149, 1156, 365, 1163, 1170, 365, 365, 1177, 1184, 1191, 365, 1198, 1205, 1212, 365, 1219, 1226, 1233, 365, 1240, 1247, 365, 365, 365, 1254, 1261, 365, 1268, 1275, 365, 365, 365, 1282, 1289, 365, 1296, 1303, 365, 365, 1310, 1317, 1324, 365, 1331, 1338, 1345, 365, 1352, 1359, 1366, 365, 1373, 1380, 365, 365, 365, 1387, 1394, 365, 1401, 1408, 365, 365, 365, 1415, 1422, 365]
noncomputable def refsOf : List Nat → List Value
  | [] => []
  | a :: r => .ref a :: refsOf r
noncomputable def intsOf (T : Nat) : List PySem.Expr → List Value
  | [] => []
  | .Constant (.int i) _ _ :: r => .int i T :: intsOf (T + 1) r
  | _ :: r => intsOf T r
noncomputable def itemsOf (T : Nat) : List PySem.Expr → List Value
  | .Name n p :: r => refsOf insA
  | l => intsOf T l
noncomputable def toksOf : List PySem.Expr → Nat
  | .Name n p :: r => 0
  | l => lenN l
noncomputable def simO : List Stmt → Nat → Nat → List Obj
  | [], _, _ => []
  | .FunctionDef nm a bd _ _ _ sc _ _ pos :: r, b, T => match a.defaults with
    | [] => sevenO b T modV .none nm (qualM nm) a bd sc pos.line (simO r (b + 7) (T + 6 + nvOf sc))
    | _ :: _ => tupO [.none, .int 0 T] :: sevenO (b + 1) (T + 1) modV (.ref b) nm (qualM nm) a bd sc pos.line (simO r (b + 8) (T + 7 + nvOf sc))
  | .Assign _ (.Constant _ _ _) _ :: r, b, T => simO r b (T + 2)
  | .Assign _ (.List es _) _ :: r, b, T => lisO (itemsOf T es) :: simO r (b + 1) (T + toksOf es + 1)
  | _ :: r, b, T => simO r b T
noncomputable def en (P : Params) (k : Str) (t : Nat) (v : Value) : DictEntry := ⟨PyData.keyHash P k, .str k t, v⟩
noncomputable def valOf (T : Nat) : Const → Value
  | .int i => .int i T
  | .str s => .str s T
  | _ => .none
noncomputable def simE (P : Params) (more : List DictEntry) : List Stmt → Nat → Nat → List DictEntry
  | [], _, _ => more
  | .FunctionDef nm a bd _ _ _ sc _ _ pos :: r, b, T => match a.defaults with
    | [] => en P nm (T + 5 + nvOf sc) (.ref (b + 6)) :: simE P more r (b + 7) (T + 6 + nvOf sc)
    | _ :: _ => en P nm (T + 6 + nvOf sc) (.ref (b + 7)) :: simE P more r (b + 8) (T + 7 + nvOf sc)
  | .Assign [.Name n _] (.Constant c _ _) _ :: r, b, T => en P n (T + 1) (valOf T c) :: simE P more r b (T + 2)
  | .Assign [.Name n _] (.List es _) _ :: r, b, T => en P n (T + toksOf es) (.ref b) :: simE P more r (b + 1) (T + toksOf es + 1)
  | _ :: r, b, T => simE P more r b T
noncomputable def simF : List Stmt → Nat → List Value
  | [], _ => []
  | .FunctionDef nm a bd _ _ _ sc _ _ pos :: r, b => match a.defaults with
    | [] => .int pos.line 0 :: .int 4 0 :: .ref (b + 5) :: simF r (b + 7)
    | _ :: _ => .int pos.line 0 :: .int 4 0 :: .ref (b + 6) :: simF r (b + 8)
  | _ :: r, b => simF r b
noncomputable def takeS : Nat → List Stmt → List Stmt
  | 0, _ => []
  | _ + 1, [] => []
  | n + 1, s :: r => s :: takeS n r
noncomputable def dropS : Nat → List Stmt → List Stmt
  | 0, l => l
  | _ + 1, [] => []
  | n + 1, _ :: r => dropS n r

noncomputable def glob0 (P : Params) (nv : Value) (more : List DictEntry) : List DictEntry := en P (s8 [95, 95, 110, 97, 109, 101, 95, 95]) 165 nv :: en P (s8 [95, 95, 100, 111, 99, 95, 95]) 166 (.none) :: en P (s8 [95, 95, 112, 97, 99, 107, 97, 103, 101, 95, 95]) 167 (.none) :: en P (s8 [95, 95, 108, 111, 97, 100, 101, 114, 95, 95]) 168 (.builtin PySem.W.SL.s7097527257260152453x26) :: en P (s8 [95, 95, 115, 112, 101, 99, 95, 95]) 169 (.none) :: en P (s8 [95, 95, 97, 110, 110, 111, 116, 97, 116, 105, 111, 110, 115, 95, 95]) 170 (.ref 6) :: en P (s8 [95, 95, 98, 117, 105, 108, 116, 105, 110, 115, 95, 95]) 171 (.ref 4) :: en P (s8 [95, 95, 102, 105, 108, 101, 95, 95]) 173 (.str fileS 172) :: en P (s8 [95, 95, 99, 97, 99, 104, 101, 100, 95, 95]) 174 (.none) :: en P (s8 [95, 119, 97, 108, 108]) 193 (.ref 21) :: more
noncomputable def clsE0 (P : Params) (more : List DictEntry) : List DictEntry := en P (s8 [95, 95, 109, 111, 100, 117, 108, 101, 95, 95]) 203 (modV) :: en P (s8 [95, 95, 113, 117, 97, 108, 110, 97, 109, 101, 95, 95]) 205 (.str mpuS 204) :: en P (s8 [95, 95, 102, 105, 114, 115, 116, 108, 105, 110, 101, 110, 111, 95, 95]) 207 (.int 5 206) :: more
noncomputable def wallS (p : Program) : Stmt := match p.main.body with | s :: _ => s | [] => .Pass ⟨0, 0, 0, 0⟩
noncomputable def lawS (p : Program) : Stmt := match p.main.body with | _ :: _ :: _ :: _ :: s :: _ => s | _ => .Pass ⟨0, 0, 0, 0⟩
noncomputable def clsSts (p : Program) : List Stmt := match p.main.body with | _ :: _ :: .ClassDef _ _ _ b _ _ _ _ _ _ _ :: _ => b | _ => []
noncomputable def clsSco (p : Program) : Scope := match p.main.body with | _ :: _ :: .ClassDef _ _ _ _ _ _ s _ _ _ _ :: _ => s | _ => p.main.scope
noncomputable def defO (b T : Nat) (mv : Value) (s : Stmt) (more : List Obj) : List Obj := match s with
  | .FunctionDef nm a bd _ _ _ sc _ _ pos => sevenO b T mv .none nm nm a bd sc pos.line more
  | _ => more
noncomputable def frmO (c l : Nat) (nv : Value) : Obj := ⟨tFrame, none, .plain, ⟨[some (.ref c), some (.ref 3), some (.ref l), none, some nv, none, some (.ref 0)]⟩⟩
noncomputable def mainV : Value := .str (s8 [95, 95, 109, 97, 105, 110, 95, 95]) 164
/-- the first 29 objects -/
noncomputable def base0 (P : Params) (p : Program) (g12 : List Value) (nv : Value) (gm : List DictEntry) (gn : Nat) (ce : List DictEntry) (cn : Nat) (fs : List Value) (more : List Obj) : List Obj :=
  boot_o_0 P :: boot_o_1 P :: boot_o_2 P :: dicO (glob0 P nv gm) gn :: boot_o_4 P :: boot_o_5 P :: boot_o_6 P :: boot_o_7 P :: boot_o_8 P :: boot_o_9 P :: boot_o_10 P ::
  tupO [] :: fldO (.int 1 0 :: .int 0 0 :: .ref 20 :: .int 5 0 :: .int 0 0 :: .ref 27 :: g12) :: cod0 182 11 12 1 (s8 [60, 109, 111, 100, 117, 108, 101, 62]) 181 :: frmO 13 3 mainV ::
  defO 15 187 mainV (wallS p) (tupO [] :: ⟨.type PySem.W.SL.s11030030927630378310x26, none, .fields ⟨[.builtin PySem.W.SL.s10062305145149207511x16, .type PySem.W.SL.s17162191345867700912x4]⟩, ⟨[]⟩⟩ ::
  dicO (clsE0 P ce) cn :: tupO [] :: fldO fs :: cod0 198 25 26 5 mpuS 181 :: frmO 27 24 modV :: more)
/-- what stands behind the first k statements of the class's body -/
noncomputable def objsAt (P : Params) (p : Program) (k : Nat) : List Obj :=
  base0 P p [] modV [] 10 (simE P [] (takeS k (clsSts p)) 29 208) (3 + k) (simF (takeS k (clsSts p)) 29) (simO (takeS k (clsSts p)) 29 208)
noncomputable def statS : List Str := [(s8 [97]), (s8 [97, 100, 100, 99, 121, 99, 108, 101, 115]), (s8 [97, 100, 100, 114, 72, 105, 103, 104, 77, 97, 115, 107]), (s8 [97, 100, 100, 114, 77, 97, 115, 107]), (s8 [98, 121, 116, 101, 77, 97, 115, 107]), (s8 [101, 120, 99, 121, 99, 108, 101, 115]), (s8 [109, 101, 109, 111, 114, 121]), (s8 [110, 97, 109, 101]), (s8 [112]), (s8 [112, 99]), (s8 [112, 114, 111, 99, 101, 115, 115, 111, 114, 67, 121, 99, 108, 101, 115]), (s8 [115, 112]), (s8 [115, 112, 66, 97, 115, 101]), (s8 [115, 116, 97, 114, 116, 95, 112, 99]), (s8 [120]), (s8 [121])]
noncomputable def clsDict (P : Params) (p : Program) : List DictEntry := en P (s8 [95, 95, 109, 111, 100, 117, 108, 101, 95, 95]) 203 (modV) :: en P (s8 [95, 95, 102, 105, 114, 115, 116, 108, 105, 110, 101, 110, 111, 95, 95]) 207 (.int 5 206) ::
  simE P (en P (s8 [95, 95, 115, 116, 97, 116, 105, 99, 95, 97, 116, 116, 114, 105, 98, 117, 116, 101, 115, 95, 95]) 2241 (.ref 1426) :: en P (s8 [95, 95, 100, 105, 99, 116, 95, 95]) 2243 (.ref 1429) :: en P (s8 [95, 95, 119, 101, 97, 107, 114, 101, 102, 95, 95]) 2245 (.ref 1430) :: en P (s8 [95, 95, 100, 111, 99, 95, 95]) 2246 (.none) :: []) (clsSts p) 29 208
noncomputable def clsObj : Obj := ⟨.type PySem.W.SL.s17162191345867700912x4, none, .cls ⟨mpuS, [.type PySem.W.SL.s2742458400755230247x6], [.ref 1428, .type PySem.W.SL.s2742458400755230247x6], 1427, mpuS, true, [], [], false, none, false⟩, ⟨[none, none, some (.str mpuS 196), some (.str mpuS 204), some (.builtin PySem.W.SL.s11443829558043349243x14), some (.bool true)]⟩⟩
noncomputable def lawV : Value := .str (s8 [108, 97, 119, 95, 108, 110, 48, 48, 52, 53, 95, 48, 49]) 2249
noncomputable def lastO (P : Params) (p : Program) : List Obj :=
  tupO (strsV 2225 statS) :: dicO (clsDict P p) 4 :: clsObj ::
  ⟨.type PySem.W.SL.s14755015743595814543x17, none, .fields ⟨[.str (s8 [95, 95, 100, 105, 99, 116, 95, 95]) 2242, .ref 1428, .builtin PySem.W.SL.s6511155373996960695x17, .builtin PySem.W.SL.s12411053484034534018x21]⟩, ⟨[]⟩⟩ ::
  ⟨.type PySem.W.SL.s14755015743595814543x17, none, .fields ⟨[.str (s8 [95, 95, 119, 101, 97, 107, 114, 101, 102, 95, 95]) 2244, .ref 1428, .builtin PySem.W.SL.s10220274742760427390x26, .none]⟩, ⟨[]⟩⟩ ::
  ⟨.type PySem.W.SL.s4290257624100764138x5, none, .fields ⟨[.ref 1428, .ref 1428, .ref 1428]⟩, ⟨[]⟩⟩ ::
  ⟨.type PySem.W.SL.s11030030927630378310x26, none, .fields ⟨[.builtin PySem.W.SL.s4860613602091757760x24, .ref 1428]⟩, ⟨[]⟩⟩ ::
  defO 1433 2251 lawV (lawS p) []
noncomputable def appO : List Obj → List Obj → List Obj
  | [], r => r
  | o :: l, r => o :: appO l r
noncomputable def objsEnd (P : Params) (p : Program) : List Obj :=
  base0 P p [.int 1031 0, .int 0 0, .ref 1438] lawV [en P (s8 [77, 80, 85]) 2248 (.ref 1428), en P (s8 [108, 97, 119]) 2278 (.ref 1439)] 12
    (simE P [en P (s8 [95, 95, 115, 116, 97, 116, 105, 99, 95, 97, 116, 116, 114, 105, 98, 117, 116, 101, 115, 95, 95]) 2241 (.ref 1426)] (clsSts p) 29 208) 221 (simF (clsSts p) 29) (appO (simO (clsSts p) 29 208) (lastO P p))

noncomputable abbrev pwQ : Program := PySem.Challenge.pw_ln0045_01
theorem pw_eq : PySem.Challenge.pw_ln0045_01 = pwQ := rfl
noncomputable def cenv (p : Program) : Env := ⟨clsSco p, 24, 3, [], s8 [77, 80, 85, 46], none, .ref 27, some 28, 0⟩
noncomputable def cbody (p : Program) : Code := .body (clsSts p) (cenv p)
noncomputable def menv (p : Program) : Env := ⟨p.main.scope, 3, 3, [], s8 [], none, .ref 13, some 14, 0⟩
noncomputable def mbody (p : Program) : Code := .body p.main.body (menv p)
noncomputable def insAll : List Obj → Nat → BT → BT
  | [], _, t => t
  | o :: r, i, t => insAll r (i + 1) (t.ins i o)
noncomputable def stT (p : Program) (w : World) (os : OsState) (k n tk : Nat) : SharedT := ⟨insAll (objsAt w.params p k) 0 .nil, n, {}, ⟨[]⟩, {}, tk, os⟩
noncomputable def chunk (p : Program) (a n : Nat) : List Stmt := takeS n (dropS a (clsSts p))
noncomputable def annV : Option Value := some (.ref 6)
/-- the place of the class's statement -/
noncomputable def cpos : Pos := ⟨5, 0, 1029, 786⟩
noncomputable def zpos : Pos := ⟨0, 0, 0, 0⟩
end
section

theorem take_drop : ∀ (n : Nat) (l : List Stmt), takeS n l ++ dropS n l = l
  | 0, _ => rfl
  | _ + 1, [] => rfl
  | n + 1, s :: r => congrArg (s :: ·) (take_drop n r)
theorem drop_add : ∀ (a n : Nat) (l : List Stmt), dropS n (dropS a l) = dropS (a + n) l
  | 0, n, l => by rw [Nat.zero_add]; rfl
  | a + 1, 0, [] => rfl
  | a + 1, n + 1, [] => by rw [show a + 1 + (n + 1) = (a + n + 1) + 1 by omega]; rfl
  | a + 1, n, s :: r => by rw [show a + 1 + n = (a + n) + 1 by omega]; exact drop_add a n r
section
variable {tb : String → Option Builtin} {p : Program} {w : World} {n₀ : Nat} {ann : Option Value} {env : Env} {B : List Frame}
theorem piece_appB {n N : Nat} {s s' r : Shared} {l rest : List Stmt} {c : Code} {pos p' : Pos} (hB : splitAtGen B = none) (h : segRun tb p w n₀ ann B.length n s (piecesOf l env c pos B) = some (.next, s', c, p'))
    (k : topRun tb p w n₀ ann N s' (restOf rest env c p' B) = some r) : topRun tb p w n₀ ann (n + N) s (restOf (l ++ rest) env c pos B) = some r := by
  obtain ⟨a, ha, hN⟩ := seg_top (res := id) (K' := fun f => match f with | .next => (execs rest env).wrap doneF (leaveH env) id id | f => doneF f) (H' := leaveH env) (B := B) hB n s (piecesOf l env c pos B)
    ⟨(execs l env).wrap (fun f => match f with | .next => (execs rest env).wrap doneF (leaveH env) id id | f => doneF f) (leaveH env) id id, c, pos, B⟩ _ _ _ _ ⟨rfl, rfl, .inl ⟨rfl, rfl, _, rfl, rfl⟩⟩ h
  obtain rfl : a = .next := ha
  have := hN N r k
  unfold restOf
  rw [execs_app_wrap]
  exact this
theorem piece_blockB {n N : Nat} {s s' r : Shared} {b : List Stmt} {c : Code} {pos p' : Pos} (hB : splitAtGen B = none) (h : segRun tb p w n₀ ann B.length n s (blockOf b env c pos B) = some (.next, s', c, p'))
    (k : topRun tb p w n₀ ann N s' (restOf b env c p' B) = some r) : topRun tb p w n₀ ann (n + N) s ⟨denote tb (.body b env), c, pos, B⟩ = some r := by
  obtain ⟨a, ha, hN⟩ := seg_top (res := fun _ : Unit => Flow.next) (K' := fun _ => (execs b env).wrap doneF (leaveH env) id id) (H' := Sem.raise) (B := B) hB n s (blockOf b env c pos B)
    ⟨(blockStart b env).wrap (fun _ => (execs b env).wrap doneF (leaveH env) id id) .raise id id, c, pos, B⟩ _ _ _ _ ⟨rfl, rfl, .inl ⟨rfl, rfl, _, rfl, rfl⟩⟩ h
  rw [body_wrap]
  exact hN N r k
theorem piece_step {n N a m : Nat} {s s' r : Shared} {l : List Stmt} {c : Code} {pos p' : Pos} (hB : splitAtGen B = none) (h : segRun tb p w n₀ ann B.length n s (piecesOf (takeS m (dropS a l)) env c pos B) = some (.next, s', c, p'))
    (k : topRun tb p w n₀ ann N s' (restOf (dropS (a + m) l) env c p' B) = some r) : topRun tb p w n₀ ann (n + N) s (restOf (dropS a l) env c pos B) = some r := by
  have := piece_appB (rest := dropS (a + m) l) hB h k
  rw [← drop_add a m l, take_drop] at this
  exact this
theorem end0 {t : Thread} : (endAt 0 t).isSome = through t := by
  obtain ⟨cur, code, pos, st⟩ := t
  cases st with
  | nil => cases cur <;> first | rfl | (rename_i f; cases f <;> rfl)
  | cons f r => cases cur <;> first | rfl | (rename_i f; cases f <;> rfl)
theorem seg0 : ∀ {n : Nat} {s s' : Shared} {t : Thread} {f : Flow} {c : Code} {q : Pos}, segRun tb p w n₀ ann 0 n s t = some (f, s', c, q) → topRun tb p w n₀ ann n s t = some s'
  | 0, _, _, _, _, _, _, h => by cases h
  | n + 1, s, s', t, f, c, q, h => by
    have e := end0 (t := t)
    unfold segRun at h
    unfold topRun
    cases he : endAt 0 t with
    | some x =>
      rw [he] at h e
      rw [← e]
      cases h
      rfl
    | none =>
      rw [he] at h e
      rw [← e]
      show (match stepOk n₀ ann t with | false => none | true => _) = _
      cases hk : stepOk n₀ ann t with
      | false => rw [hk] at h; cases h
      | true =>
        rw [hk] at h
        cases hs : step (denote tb) p w s t with
        | halt o s₂ => rw [hs] at h; cases h
        | go s₂ t₂ => rw [hs] at h; exact seg0 h
end
noncomputable def S0 (w : World) (os : OsState) : Shared := ⟨boot_heap w.params, Array.mk [], boot_drawn, boot_toks, os⟩
noncomputable def run0 (w : World) (os : OsState) : Option (Shared × Thread) := PySem.W.Fast.tw15667345088766844465 PySem.W.Fast.tw14364793385576792824 pwQ w 11 annV 109 (S0 w os) (topStub pwQ)
noncomputable def kq (w : World) (os : OsState) : Result → Sem Fin := match run0 w os with
  | some (_, ⟨_, _, _, .ret k _ _ _ _ _ _ :: _⟩) => k
  | _ => fun _ => .pure (.done .next)
noncomputable def Bq (w : World) (os : OsState) : List Frame := [.ret (kq w os) none false [.ref 22, .ref 22, .ref 24, .ref 28] (mbody pwQ) cpos [], topFrame zpos]
noncomputable def endT (w : World) (os : OsState) : SharedT := ⟨insAll (objsEnd w.params pwQ) 0 .nil, 1440, {}, ⟨[]⟩, {}, 2279, os⟩
noncomputable def H1 (P : Params) : Heap := ⟨⟨objsEnd P pwQ⟩, {}⟩
theorem pre (w : World) (os : OsState) : topGo treeTable PySem.Challenge.pw_ln0045_01 w 11 annV 109 (S0 w os) (topStub PySem.Challenge.pw_ln0045_01) = some ((stT pwQ w os 0 29 208).abs, ⟨denote treeTable (cbody pwQ), cbody pwQ, cpos, Bq w os⟩) := by
  rw [pw_eq, PySem.W.Fast.te15667345088766844465, PySem.W.Fast.te14364793385576792824, PySem.W.Fast.te11892475500146522536]
  kernel_rfl
theorem blk (w : World) (os : OsState) : segRun treeTable PySem.Challenge.pw_ln0045_01 w 11 annV 2 1 (stT pwQ w os 0 29 208).abs (blockOf (clsSts pwQ) (cenv pwQ) (cbody pwQ) cpos (Bq w os)) = some (.next, (stT pwQ w os 0 29 208).abs, cbody pwQ, cpos) := by
  rw [pw_eq, PySem.W.Fast.te14374325043358763698, PySem.W.Fast.te14364793385576792824]
  kernel_rfl
theorem pc0 (w : World) (os : OsState) : segRunT treeTable PySem.Challenge.pw_ln0045_01 w 11 annV 2 300 (stT pwQ w os 0 29 208) (piecesOf (takeS 16 (dropS 0 (clsSts pwQ))) (cenv pwQ) (cbody pwQ) cpos (Bq w os))
    = some (.next, stT pwQ w os 16 37 248, cbody pwQ, ⟨22, 4, 35, 20⟩) := by
  rw [pw_eq, PySem.W.Fast.te10110043849684766642, PySem.W.Fast.te14364793385576792824]
  unfold piecesOf
  rw [PySem.W.Fast.te12563942051412417395]
  kernel_rfl
theorem pc1 (w : World) (os : OsState) : segRunT treeTable PySem.Challenge.pw_ln0045_01 w 11 annV 2 1700 (stT pwQ w os 16 37 248) (piecesOf (takeS 50 (dropS 16 (clsSts pwQ))) (cenv pwQ) (cbody pwQ) ⟨22, 4, 35, 20⟩ (Bq w os))
    = some (.next, stT pwQ w os 66 387 673, cbody pwQ, ⟨453, 4, 455, 20⟩) := by
  rw [pw_eq, PySem.W.Fast.te10110043849684766642, PySem.W.Fast.te14364793385576792824]
  unfold piecesOf
  rw [PySem.W.Fast.te12563942051412417395]
  kernel_rfl
theorem pc2 (w : World) (os : OsState) : segRunT treeTable PySem.Challenge.pw_ln0045_01 w 11 annV 2 1700 (stT pwQ w os 66 387 673) (piecesOf (takeS 50 (dropS 66 (clsSts pwQ))) (cenv pwQ) (cbody pwQ) ⟨453, 4, 455, 20⟩ (Bq w os))
    = some (.next, stT pwQ w os 116 737 1023, cbody pwQ, ⟨640, 4, 642, 20⟩) := by
  rw [pw_eq, PySem.W.Fast.te10110043849684766642, PySem.W.Fast.te14364793385576792824]
  unfold piecesOf
  rw [PySem.W.Fast.te12563942051412417395]
  kernel_rfl
theorem pc3 (w : World) (os : OsState) : segRunT treeTable PySem.Challenge.pw_ln0045_01 w 11 annV 2 1700 (stT pwQ w os 116 737 1023) (piecesOf (takeS 50 (dropS 116 (clsSts pwQ))) (cenv pwQ) (cbody pwQ) ⟨640, 4, 642, 20⟩ (Bq w os))
    = some (.next, stT pwQ w os 166 1087 1374, cbody pwQ, ⟨836, 4, 837, 30⟩) := by
  rw [pw_eq, PySem.W.Fast.te10110043849684766642, PySem.W.Fast.te14364793385576792824]
  unfold piecesOf
  rw [PySem.W.Fast.te12563942051412417395]
  kernel_rfl
theorem pc4 (w : World) (os : OsState) : segRunT treeTable PySem.Challenge.pw_ln0045_01 w 11 annV 2 1700 (stT pwQ w os 166 1087 1374) (piecesOf (takeS 48 (dropS 166 (clsSts pwQ))) (cenv pwQ) (cbody pwQ) ⟨836, 4, 837, 30⟩ (Bq w os))
    = some (.next, stT pwQ w os 214 1423 1710, cbody pwQ, ⟨1024, 4, 1026, 20⟩) := by
  rw [pw_eq, PySem.W.Fast.te10110043849684766642, PySem.W.Fast.te14364793385576792824]
  unfold piecesOf
  rw [PySem.W.Fast.te12563942051412417395]
  kernel_rfl
theorem pc5 (w : World) (os : OsState) : segRunT treeTable PySem.Challenge.pw_ln0045_01 w 11 annV 2 1500 (stT pwQ w os 214 1423 1710) (piecesOf (takeS 3 (dropS 214 (clsSts pwQ))) (cenv pwQ) (cbody pwQ) ⟨1024, 4, 1026, 20⟩ (Bq w os))
    = some (.next, stT pwQ w os 217 1426 2225, cbody pwQ, ⟨1029, 4, 1029, 15⟩) := by
  rw [pw_eq, PySem.W.Fast.te10110043849684766642, PySem.W.Fast.te14364793385576792824]
  unfold piecesOf
  rw [PySem.W.Fast.te12563942051412417395]
  kernel_rfl
theorem fin (w : World) (os : OsState) : (segRunT treeTable PySem.Challenge.pw_ln0045_01 w 11 annV 0 699 (stT pwQ w os 217 1426 2225) ⟨doneF .next, cbody pwQ, ⟨1029, 4, 1029, 15⟩, Bq w os⟩).map (fun x => x.2.1) = some (endT w os) := by
  rw [pw_eq, PySem.W.Fast.te10110043849684766642, PySem.W.Fast.te14364793385576792824]
  kernel_rfl
theorem fin2 (w : World) (os : OsState) : (endT w os).abs = ⟨H1 w.params, ⟨[]⟩, {}, 2279, os⟩ := by kernel_rfl
theorem none0 : dropS 217 (clsSts pwQ) = [] := by kernel_rfl
theorem run (w : World) (os : OsState) : topRun treeTable PySem.Challenge.pw_ln0045_01 w 11 annV 9409 (S0 w os) (topStub PySem.Challenge.pw_ln0045_01) = some ⟨H1 w.params, ⟨[]⟩, {}, 2279, os⟩ := by
  have hB : splitAtGen (Bq w os) = none := rfl
  refine go_top (n := 109) (N := 9300) (pre w os) (piece_blockB (n := 0 + 1) (N := 9299) hB (blk w os) ?_)
  refine piece_step (a := 0) (m := 16) (n := 300) (N := 8999) hB (segRun_of (pc0 w os)) ?_
  refine piece_step (a := 16) (m := 50) (n := 1700) (N := 7299) hB (segRun_of (pc1 w os)) ?_
  refine piece_step (a := 66) (m := 50) (n := 1700) (N := 5599) hB (segRun_of (pc2 w os)) ?_
  refine piece_step (a := 116) (m := 50) (n := 1700) (N := 3899) hB (segRun_of (pc3 w os)) ?_
  refine piece_step (a := 166) (m := 48) (n := 1700) (N := 2199) hB (segRun_of (pc4 w os)) ?_
  refine piece_step (a := 214) (m := 3) (n := 1500) (N := 699) hB (segRun_of (pc5 w os)) ?_
  show topRun treeTable PySem.Challenge.pw_ln0045_01 w 11 annV 699 _ (restOf (dropS 217 (clsSts pwQ)) _ _ _ _) = _
  rw [none0, ← fin2 w os]
  obtain ⟨⟨f, s', c, q⟩, e1, e2⟩ := Option.map_eq_some_iff.mp (fin w os)
  dsimp only at e2
  subst e2
  exact seg0 (segRun_of e1)
end
section

noncomputable def nthS : Nat → List Stmt → Stmt
  | 0, s :: _ => s
  | n + 1, _ :: r => nthS n r
  | _, [] => .Pass ⟨0, 0, 0, 0⟩
noncomputable def mEnt (p : Program) (i b T : Nat) (more : Frag) : Frag := match nthS i (clsSts p) with
  | .FunctionDef nm a bd _ _ _ sc _ _ pos => (b + 6, fun1 (b + 5) modV .none nm (qualM nm) a bd sc) :: (b + 5, codO b T (nvOf sc) (lenN a.args) pos.line nm (qualM nm)) :: more
  | _ => more
noncomputable def iEnt (p : Program) (i b T : Nat) (more : Frag) : Frag := match nthS i (clsSts p) with
  | .FunctionDef nm a bd _ _ _ sc _ _ pos => (b + 6, fun1 (b + 5) modV (.ref 29) nm (qualM nm) a bd sc) :: (b + 5, codO b T (nvOf sc) (lenN a.args) pos.line nm (qualM nm)) :: more
  | _ => more
noncomputable def lisOf (T : Nat) : Stmt → Obj
  | .Assign _ (.List es _) _ => lisO (itemsOf T es)
  | _ => lisO []
noncomputable def mEnts (p : Program) (more : Frag) : List (Nat × Nat × Nat) → Frag
  | [] => more
  | (i, b, T) :: r => mEnt p i b T (mEnts p more r)
noncomputable def mRows : List (Nat × Nat × Nat) := [(16, 37, 248), (17, 44, 256), (20, 65, 277), (23, 86, 303), (25, 100, 317), (34, 163, 387), (35, 170, 395), (38, 191, 418), (40, 205, 434), (41, 212, 444), (48, 261, 503), (50, 275, 521), (56, 317, 583), (52, 289, 549), (55, 310, 573), (58, 331, 610), (59, 338, 620), (60, 345, 628), (61, 352, 636), (45, 240, 478), (160, 1045, 1332), (155, 1010, 1297), (153, 996, 1283), (122, 779, 1065), (201, 1332, 1619), (182, 1199, 1486), (137, 884, 1171), (157, 1024, 1311), (199, 1318, 1605), (69, 408, 694), (105, 660, 946), (87, 534, 820), (161, 1052, 1339), (103, 646, 932), (121, 772, 1058), (95, 590, 876)]
noncomputable def globs (P : Params) : List DictEntry := glob0 P lawV [en P mpuS 2248 (.ref 1428), en P (s8 [108, 97, 119]) 2278 (.ref 1439)]
noncomputable def KK (P : Params) (p : Program) : Frag :=
  (1428, clsObj) :: (1427, dicO (clsDict P p) 4) :: (3, dicO (globs P) 12) :: (1423, lisOf 1710 (nthS 214 (clsSts p))) :: (1424, lisOf 1711 (nthS 215 (clsSts p))) :: (1425, lisOf 1968 (nthS 216 (clsSts p))) ::
  (29, tupO [.none, .int 0 238]) :: iEnt p 15 30 239 (mEnts p [] mRows)
noncomputable def Kx (P : Params) : Frag := KK P PySem.Challenge.pw_ln0045_01
noncomputable def KAs : List Addr := [1428, 1427, 3, 1423, 1424, 1425, 29, 36, 35, 43, 42, 50, 49, 71, 70, 92, 91, 106, 105, 169, 168, 176, 175, 197, 196, 211, 210, 218, 217, 267, 266, 281, 280, 323, 322, 295, 294, 316, 315, 337, 336, 344, 343, 351, 350, 358, 357, 246, 245, 1051, 1050, 1016, 1015, 1002, 1001, 785, 784, 1338, 1337, 1205, 1204, 890, 889, 1030, 1029, 1324, 1323, 414, 413, 666, 665, 540, 539, 1058, 1057, 652, 651, 778, 777, 596, 595]
theorem KAs_eq (P : Params) : KAs = (Kx P).map (·.1) := by
  unfold Kx
  rw [pw_eq]
  kernel_rfl
noncomputable def Hk : Hook := kHook Kx KAs KAs_eq
noncomputable def qv (p : Program) : Program := { p with main := { p.main with body := [lawS p] } }
noncomputable def loose : List Str := [s8 [95, 119, 97, 108, 108], s8 [77, 80, 85]]
theorem open0 : opening PySem.Challenge.pw_ln0045_01 = plainProg PySem.Challenge.pw_ln0045_01.main.scope.names := by kernel_rfl
theorem fence0 (s : Shared) : fenceModules? PySem.Challenge.pw_ln0045_01 s = some s := by kernel_rfl
theorem size0 (w : World) : ((boot_heap w.params).isNs mainGlobals && (Array.mk [] : Array GenState).size == 0, (boot_heap w.params).objs.size, (boot_heap w.params).nsMap mainGlobals "__annotations__") = (true, 11, annV) := by kernel_rfl
noncomputable def sEnd (w : World) (os : OsState) : Shared := ⟨H1 w.params, ⟨[]⟩, {}, 2279, os⟩
theorem look1 (w : World) (os : OsState) : staticsOk (importedModules PySem.Challenge.pw_ln0045_01.main.body) (boot_heap w.params) (H1 w.params) = true := by
  rw [pw_eq]
  kernel_rfl
theorem look2 (w : World) (os : OsState) : namesBound PySem.Challenge.pw_ln0045_01 (H1 w.params) = true := by
  rw [pw_eq]
  kernel_rfl
theorem look3 (w : World) (os : OsState) : gensDone (sEnd w os) = true := by kernel_rfl
theorem look4 (w : World) (os : OsState) : laidKept (boot_heap w.params) (H1 w.params) = true := by kernel_rfl
theorem look5 (w : World) (os : OsState) : openSeen (qv PySem.Challenge.pw_ln0045_01) loose (importedModules PySem.Challenge.pw_ln0045_01.main.body) (fun _ => true) true (sEnd w os) = openGood (qv PySem.Challenge.pw_ln0045_01) loose := by
  rw [pw_eq, PySem.W.Fast.te4187177175401517315]
  kernel_rfl
theorem look6 (w : World) (os : OsState) : Hk.obs (sEnd w os) = Hk.val w := by
  show KAs.map (H1 w.params).get? = (Kx w.params).map fun p => some p.2
  unfold Kx
  rw [pw_eq]
  kernel_rfl
theorem looks (w : World) : (fun os => ((staticsOk (importedModules PySem.Challenge.pw_ln0045_01.main.body) (boot_heap w.params) (H1 w.params) && namesBound PySem.Challenge.pw_ln0045_01 (H1 w.params) && gensDone (sEnd w os) && laidKept (boot_heap w.params) (H1 w.params)),
        openSeen (qv PySem.Challenge.pw_ln0045_01) loose (importedModules PySem.Challenge.pw_ln0045_01.main.body) (fun _ => true) true (sEnd w os), Hk.obs (sEnd w os))) = fun _ => (true, openGood (qv PySem.Challenge.pw_ln0045_01) loose, Hk.val w) := by
  funext os
  rw [look1 w os, look2 w os, look3 w os, look4 w os, look5 w os, look6 w os]
  rfl
theorem left : LeftO PySem.Challenge.pw_ln0045_01 (qv PySem.Challenge.pw_ln0045_01) loose (fun _ => true) Hk.obs Hk.val 20000 :=
  LeftO.of_pieces (H₀ := boot_heap) (H₁ := H1) (gs₀ := Array.mk []) (gs₁ := ⟨[]⟩) (d₀ := boot_drawn) (d₁ := {}) (k₀ := boot_toks) (k₁ := 2279) (m₀ := 11) (ann := annV) (M := 9409) (boot_open open0 (by decide) fence0) size0 run (by decide) looks
end
section

noncomputable def lawD (p : Program) : DefRec := match lawS p with
  | .FunctionDef nm a b _ _ _ sc _ _ pos => ⟨nm, a, b, sc, pos⟩
  | _ => ⟨s8 [], ⟨[], [], none, [], [], none, []⟩, [], p.main.scope, zpos⟩
theorem ok1 : chainsOk (qv PySem.Challenge.pw_ln0045_01) = true := by kernel_rfl
theorem ok2 : opensWell PySem.Challenge.rw_ln0045_01.row.prog = true := by kernel_rfl
theorem ok3 : (frees PySem.Challenge.rw_ln0045_01.row.toRowW && PySem.Challenge.rw_ln0045_01.row.within.isEmpty) = true := by kernel_rfl
theorem hd (said : PySem.Challenge.rw_ln0045_01.row.wellSaid = true) (walk : WalkO (qv PySem.Challenge.pw_ln0045_01) loose (fun _ _ => True) Hk.says PySem.Challenge.rw_ln0045_01.row.toRowW (lawD PySem.Challenge.pw_ln0045_01) [] fun f vs => PySem.call f vs) (hw : PySem.Challenge.rw_ln0045_01.row.toRowW.promised) : PySem.Challenge.rw_ln0045_01.row.Holds :=
  PySem.W.holds_open (q := qv PySem.Challenge.pw_ln0045_01) (loose := loose) (Xt := fun _ => true) (XP := fun _ _ => True) (Yf := Hk.obs) (Ya := Hk.val) (YP := Hk.says) (N := 20000) (d := lawD PySem.Challenge.pw_ln0045_01) (kwd := []) left Hk.of Hk.keeps (fun _ _ => True.intro) (fun _ _ _ _ _ => True.intro) (by kernel_rfl) (by kernel_rfl) (by kernel_rfl)
    (fun s _ => recFacts_of (by rfl)) (by rfl) said (look_both (look_both ok1 ok2) ok3) ⟨rfl, rfl, rfl, rfl, rfl, tables⟩ hw walk
end
section
/-! the methods, by their place in the class's body -/
noncomputable def fName (p : Program) (i : Nat) : Str := match nthS i (clsSts p) with | .FunctionDef n _ _ _ _ _ _ _ _ _ => n | _ => s8 []
noncomputable def fPar (p : Program) (i : Nat) : Arguments := match nthS i (clsSts p) with | .FunctionDef _ a _ _ _ _ _ _ _ _ => a | _ => ⟨[], [], none, [], [], none, []⟩
noncomputable def fBody (p : Program) (i : Nat) : List Stmt := match nthS i (clsSts p) with | .FunctionDef _ _ b _ _ _ _ _ _ _ => b | _ => []
noncomputable def fSc (p : Program) (i : Nat) : Scope := match nthS i (clsSts p) with | .FunctionDef _ _ _ _ _ _ s _ _ _ => s | _ => p.main.scope
abbrev Cc : Addr := 1428

/-- what stands in the machine's dict -/
structure AV where
  nm : Value
  bm : Value
  am : Value
  ah : Value
  sb : Value
  ex : Value
  ad : Value
  cy : Value
  me : Value
  st : Value
  pc : Value
  sp : Value
  a : Value
  x : Value
  y : Value
  p : Value
abbrev ent (w : World) (n : String) (t : Tok) (v : Value) : DictEntry := ⟨PyData.keyHash w.params (Str.ofString n), .str (Str.ofString n) t, v⟩
def ents (w : World) (k : Nat → Tok) (v : AV) : List DictEntry :=
  [ent w "name" (k 0) v.nm, ent w "byteMask" (k 1) v.bm, ent w "addrMask" (k 2) v.am, ent w "addrHighMask" (k 3) v.ah, ent w "spBase" (k 4) v.sb,
   ent w "excycles" (k 5) v.ex, ent w "addcycles" (k 6) v.ad, ent w "processorCycles" (k 7) v.cy, ent w "memory" (k 8) v.me, ent w "start_pc" (k 9) v.st,
   ent w "pc" (k 10) v.pc, ent w "sp" (k 11) v.sp, ent w "a" (k 12) v.a, ent w "x" (k 13) v.x, ent w "y" (k 14) v.y, ent w "p" (k 15) v.p]
/-- the machine, plainly -/
structure MS where
  a : Int
  x : Int
  y : Int
  sp : Int
  p : Int
  pc : Int
  ex : Int
  mem : List Int
def IsI (v : Value) (i : Int) : Prop := ∃ t, v = .int i t
structure Vals (v : AV) (S : MS) (M : Addr) : Prop where
  bm : IsI v.bm 255
  am : IsI v.am 65535
  sb : IsI v.sb 256
  ex : IsI v.ex S.ex
  cy : ∃ i, IsI v.cy i
  me : v.me = .ref M
  pc : IsI v.pc S.pc
  sp : IsI v.sp S.sp
  a : IsI v.a S.a
  x : IsI v.x S.x
  y : IsI v.y S.y
  p : IsI v.p S.p
/-- the addresses are apart -/
structure Ap (x d M : Addr) (rest : List (Addr × Obj)) : Prop where
  xd : x ≠ d
  Md : M ≠ d
  xM : x ≠ M
  rd : ∀ p ∈ rest, p.1 ≠ d
  rM : ∀ p ∈ rest, p.1 ≠ M
abbrev Lk (l : List (Str × Value)) : Str → Option Value := fun y => l.lookup y
structure Ok (og : OsState × Drawn) (w : World) (x d M : Addr) (rest : List (Addr × Obj)) (h₀ : Heap) (L : Addr) (l : List (Str × Value)) (S : MS) (h : Heap) (o : OsState × Drawn) (g : Array GenState) : Prop where
  F : Fr h₀ L h (Lk l)
  N : ∃ k v n c vs, News h₀ L h ((x, instObj Cc d) :: (d, dictOf (ents w k v) n) :: (M, listOf vs.toArray c) :: rest) ∧ Vals v S M ∧ IntsAre vs S.mem ∧ (o = og ∧ g = #[])
/-- what a frame knows -/
structure Cx (K : Frag) (n : Nat) (A : Around) (env : Env) (h₀ : Heap) (L : Addr) : Prop where
  B : ∃ A₀ base outer, Below A₀ base outer h₀ ∧ A.frames = some (env :: outer)
  hf : env.frame = some L
  hk : env.scope.kind = .function
  X : K.In h₀
  T : ∃ p loose mean mg mb, Top p loose mean mg mb h₀
  dep : A.depth ≤ n + 400
theorem Cx.kin {K : Frag} {n : Nat} {A : Around} {env : Env} {h₀ : Heap} {L : Addr} (cx : Cx K n A env h₀ L) {h : Heap} {m : Str → Option Value} (F : Fr h₀ L h m) : K.In h := cx.X.keeps F.keep
/-- a method, as it stands in the written part -/
structure MethP (p : Program) (K : Frag) (i : Nat) (nm : Str) (f : Addr) : Prop where
  find : findIn K (.ref Cc) nm = some (some (.ref f))
  isf : isFn K (.ref f) = true
  keep : keepIn K (.ref f) = true
  fni : fnIn K f = true
  getf : specialIn K (.ref f) "__get__" = some (some (.builtin "function.__get__"))
  tak : takesIn K (.ref f) = some false
  cop : copiedNames.contains nm = false
  look : ∃ qual kV doc pm an cdv ct oc od osl, K.lookup f = some ⟨oc, od, .func (fnOf (fName p i) qual (fPar p i) (fBody p i) (fSc p i) .none kV doc pm an cdv ct), osl⟩ ∧ codeIn K cdv qual = true
abbrev Meth := MethP pw
def opcodes : List Nat := [169, 162, 160, 105, 233, 201, 133, 165, 230, 10, 74, 42, 170, 72, 104, 56]
def opfns : List (Nat × Addr) := [(169, 1051), (162, 1016), (160, 1002), (105, 785), (233, 1338), (201, 1205), (133, 890), (165, 1030), (230, 1324), (10, 414), (74, 666), (42, 540), (170, 1058), (72, 652), (104, 778), (56, 596)]
structure KFp (p : Program) (K : Frag) : Prop where
  dict : hasDictIn K Cc = true
  over : plainOver K Cc = true
  setA : findIn K (.ref Cc) "__setattr__" = some (some (.builtin "object.__setattr__"))
  get : plainGet K Cc Str.empty = true
  i_pc : findIn K (.ref Cc) (Str.ofString "pc") = some none ∧ takerIn K Cc (Str.ofString "pc") = some none
  i_sp : findIn K (.ref Cc) (Str.ofString "sp") = some none ∧ takerIn K Cc (Str.ofString "sp") = some none
  i_a : findIn K (.ref Cc) (Str.ofString "a") = some none ∧ takerIn K Cc (Str.ofString "a") = some none
  i_x : findIn K (.ref Cc) (Str.ofString "x") = some none ∧ takerIn K Cc (Str.ofString "x") = some none
  i_y : findIn K (.ref Cc) (Str.ofString "y") = some none ∧ takerIn K Cc (Str.ofString "y") = some none
  i_p : findIn K (.ref Cc) (Str.ofString "p") = some none ∧ takerIn K Cc (Str.ofString "p") = some none
  i_excycles : findIn K (.ref Cc) (Str.ofString "excycles") = some none ∧ takerIn K Cc (Str.ofString "excycles") = some none
  i_byteMask : findIn K (.ref Cc) (Str.ofString "byteMask") = some none ∧ takerIn K Cc (Str.ofString "byteMask") = some none
  i_addrMask : findIn K (.ref Cc) (Str.ofString "addrMask") = some none ∧ takerIn K Cc (Str.ofString "addrMask") = some none
  i_spBase : findIn K (.ref Cc) (Str.ofString "spBase") = some none ∧ takerIn K Cc (Str.ofString "spBase") = some none
  i_processorCycles : findIn K (.ref Cc) (Str.ofString "processorCycles") = some none ∧ takerIn K Cc (Str.ofString "processorCycles") = some none
  i_memory : findIn K (.ref Cc) (Str.ofString "memory") = some none ∧ takerIn K Cc (Str.ofString "memory") = some none
  i_addcycles : findIn K (.ref Cc) (Str.ofString "addcycles") = some none ∧ takerIn K Cc (Str.ofString "addcycles") = some none
  c_NEGATIVE : ∃ t, findIn K (.ref Cc) (Str.ofString "NEGATIVE") = some (some (.int 128 t)) ∧ specialIn K (.int 128 t) "__get__" = some none
  c_OVERFLOW : ∃ t, findIn K (.ref Cc) (Str.ofString "OVERFLOW") = some (some (.int 64 t)) ∧ specialIn K (.int 64 t) "__get__" = some none
  c_DECIMAL : ∃ t, findIn K (.ref Cc) (Str.ofString "DECIMAL") = some (some (.int 8 t)) ∧ specialIn K (.int 8 t) "__get__" = some none
  c_ZERO : ∃ t, findIn K (.ref Cc) (Str.ofString "ZERO") = some (some (.int 2 t)) ∧ specialIn K (.int 2 t) "__get__" = some none
  c_CARRY : ∃ t, findIn K (.ref Cc) (Str.ofString "CARRY") = some (some (.int 1 t)) ∧ specialIn K (.int 1 t) "__get__" = some none
  t_instruct : findIn K (.ref Cc) (Str.ofString "instruct") = some (some (.ref 1423)) ∧ specialIn K (.ref 1423) "__get__" = some none
  t_cycletime : findIn K (.ref Cc) (Str.ofString "cycletime") = some (some (.ref 1424)) ∧ specialIn K (.ref 1424) "__get__" = some none
  t_extracycles : findIn K (.ref Cc) (Str.ofString "extracycles") = some (some (.ref 1425)) ∧ specialIn K (.ref 1425) "__get__" = some none
  m_step : MethP p K 16 (Str.ofString "step") 43
  m_ByteAt : MethP p K 20 (Str.ofString "ByteAt") 71
  m_ProgramCounter : MethP p K 23 (Str.ofString "ProgramCounter") 92
  m_ZeroPageAddr : MethP p K 25 (Str.ofString "ZeroPageAddr") 106
  m_stPush : MethP p K 34 (Str.ofString "stPush") 169
  m_stPop : MethP p K 35 (Str.ofString "stPop") 176
  m_FlagsNZ : MethP p K 38 (Str.ofString "FlagsNZ") 197
  m_opASL : MethP p K 40 (Str.ofString "opASL") 211
  m_opLSR : MethP p K 41 (Str.ofString "opLSR") 218
  m_opROL : MethP p K 48 (Str.ofString "opROL") 267
  m_opADC : MethP p K 50 (Str.ofString "opADC") 281
  m_opSBC : MethP p K 56 (Str.ofString "opSBC") 323
  m_opSTA : MethP p K 52 (Str.ofString "opSTA") 295
  m_opCMPR : MethP p K 55 (Str.ofString "opCMPR") 316
  m_opINCR : MethP p K 58 (Str.ofString "opINCR") 337
  m_opLDA : MethP p K 59 (Str.ofString "opLDA") 344
  m_opLDY : MethP p K 60 (Str.ofString "opLDY") 351
  m_opLDX : MethP p K 61 (Str.ofString "opLDX") 358
  m_opSET : MethP p K 45 (Str.ofString "opSET") 246
  m_inst_0xa9 : MethP p K 160 (Str.ofString "inst_0xa9") 1051
  m_inst_0xa2 : MethP p K 155 (Str.ofString "inst_0xa2") 1016
  m_inst_0xa0 : MethP p K 153 (Str.ofString "inst_0xa0") 1002
  m_inst_0x69 : MethP p K 122 (Str.ofString "inst_0x69") 785
  m_inst_0xe9 : MethP p K 201 (Str.ofString "inst_0xe9") 1338
  m_inst_0xc9 : MethP p K 182 (Str.ofString "inst_0xc9") 1205
  m_inst_0x85 : MethP p K 137 (Str.ofString "inst_0x85") 890
  m_inst_0xa5 : MethP p K 157 (Str.ofString "inst_0xa5") 1030
  m_inst_0xe6 : MethP p K 199 (Str.ofString "inst_0xe6") 1324
  m_inst_0x0a : MethP p K 69 (Str.ofString "inst_0x0a") 414
  m_inst_0x4a : MethP p K 105 (Str.ofString "inst_0x4a") 666
  m_inst_0x2a : MethP p K 87 (Str.ofString "inst_0x2a") 540
  m_inst_0xaa : MethP p K 161 (Str.ofString "inst_0xaa") 1058
  m_inst_0x48 : MethP p K 103 (Str.ofString "inst_0x48") 652
  m_inst_0x68 : MethP p K 121 (Str.ofString "inst_0x68") 778
  m_inst_0x38 : MethP p K 95 (Str.ofString "inst_0x38") 596
  lx : ∃ (l : List Value) (n : Nat) (dd : Option Addr) (sl : Array (Option Value)), K.lookup 1425 = some ⟨.type "list", dd, .seq l.toArray n, sl⟩ ∧ ∀ k ∈ opcodes, ∃ e t, l[k]? = some (.int e t)
  lc : ∃ (l : List Value) (n : Nat) (dd : Option Addr) (sl : Array (Option Value)), K.lookup 1424 = some ⟨.type "list", dd, .seq l.toArray n, sl⟩ ∧ ∀ k ∈ opcodes, ∃ e t, l[k]? = some (.int e t)
  li : ∃ (l : List Value) (n : Nat) (dd : Option Addr) (sl : Array (Option Value)), K.lookup 1423 = some ⟨.type "list", dd, .seq l.toArray n, sl⟩ ∧ ∀ p ∈ opfns, l[p.1]? = some (.ref p.2)
abbrev KF := KFp pw
theorem KFp.pg {K : Frag} {p : Program} (k : KFp p K) (n : Str) : plainGet K Cc n = true := k.get

section
variable {og o9 : OsState × Drawn} {g9 : Array GenState} {K : Frag} {n : Nat} {A : Around} {env : Env} {h₀ : Heap} {L x d M : Addr} {rest : List (Addr × Obj)} {l : List (Str × Value)} {S : MS} {s : Shared} {w : World} {prog : Program} {E : Value → Shared → Prop}

def retOf : Flow → Value
  | .ret v => v
  | _ => .none

theorem call_fn {i : Nat} {nm : Str} {f : Addr} {args : List Value} (rl : List (Str × Value)) {Q : Value → Shared → Prop} (R : Value → MS → Prop) (mt : Meth K i nm f) (cx : Cx K n A env h₀ L) (hn : n < 100) (ok : Ok og w x d M rest h₀ L l S s.heap (s.os, s.drawn) s.gens)
    (hb : ∀ qual kV doc pm an cdv ct, bindArgs (fnOf (fName pw i) qual (fPar pw i) (fBody pw i) (fSc pw i) .none kV doc pm an cdv ct) ⟨args, []⟩ = pure rl.reverse)
    (hloc : (rl.reverse.all fun x => decide ((fSc pw i).names.lookup x.1 = some .local)) = true)
    (hsc : ((fSc pw i).isCoroutine, (fSc pw i).isGenerator, (fSc pw i).kind) = (false, false, .function)) (hcell : (fSc pw i).names.all (fun x => x.2 != .cell) = true)
    (body : ∀ q cd g L' A' s', Cx K (n + 1) A' (envOf q (fSc pw i) L' f cd) g L' → Ok og w x d M rest g L' rl S s'.heap (s'.os, s'.drawn) s'.gens →
      wpAny (model prog w) A' (execs (fBody pw i) (envOf q (fSc pw i) L' f cd)) (fun fl s2 => ∃ l' S', Ok og w x d M rest g L' l' S' s2.heap (s2.os, s2.drawn) s2.gens ∧ R (retOf fl) S') (fun _ _ => False) s')
    (hq : ∀ v S' s2, R v S' → Ok og w x d M rest h₀ L l S' s2.heap (s2.os, s2.drawn) s2.gens → Q v s2) :
    codeAny (model prog w) A (.call (.ref f) ⟨args, []⟩) (fun r s' => match r with | .ok (.ret v) => Q v s' | .ok _ => False | .error e => E e s') s := by
  obtain ⟨F, k, v, dn, c, vs, N, hv, hi, ho9⟩ := ok
  obtain ⟨A₀, base, outer, B, hA⟩ := cx.B
  obtain ⟨p, loose, mean, mg, mb, T⟩ := cx.T
  obtain ⟨qual, kV, doc, pm, an, cdv, ct, oc, od, osl, ho, hc⟩ := mt.look
  obtain ⟨s1, s2, s3⟩ : _ ∧ _ ∧ _ := by simpa only [Prod.mk.injEq] using hsc
  refine code_def B F cx.X N T hA cx.hf cx.hk ho hc (Nat.lt_of_le_of_lt cx.dep (by show n + 400 < 1000; omega)) (BindsTo.of_eq (hb _ _ _ _ _ _ _)) (locs hloc) (fun g L' h₁ FG F' N' B' X' T' => ?_) s1 s2 s3 (fun y hy => ?_)
  · rw [List.reverse_reverse] at F'
    refine wpAny_mono (body qual cdv g L' (A.deeper (envOf qual (fSc pw i) L' f cdv)) _ ⟨⟨_, _, _, B', Around.frames_deeper hA⟩, rfl, s3, X', ⟨_, _, _, _, _, T'⟩, ?_⟩ ⟨F', k, v, dn, c, vs, N', hv, hi, ho9⟩) (fun fl t hl => ?_) fun _ _ h => h.elim
    · have := cx.dep
      show A.depth + 1 ≤ n + 1 + 400
      omega
    · obtain ⟨l', S', ⟨F2, k2, v2, n2, c2, vs2, N2, hv2, hi2, ho92⟩, r⟩ := hl
      refine leaveK_ F2 N2 fun F3 N3 => ?_
      have z := hq _ S' t r ⟨F3, k2, v2, n2, c2, vs2, N3, hv2, hi2, ho92⟩
      cases fl <;> exact z
  · have := List.all_eq_true.mp hcell y hy
    simpa using this
end
end
section

theorem meth_of {P : Params} {i : Nat} {nm : Str} {f : Addr} (find : findIn (KK P pwQ) (.ref Cc) nm = some (some (.ref f))) (isf : isFn (KK P pwQ) (.ref f) = true) (keep : keepIn (KK P pwQ) (.ref f) = true) (fni : fnIn (KK P pwQ) f = true)
    (getf : specialIn (KK P pwQ) (.ref f) "__get__" = some (some (.builtin "function.__get__"))) (tak : takesIn (KK P pwQ) (.ref f) = some false) (cop : copiedNames.contains nm = false)
    (l1 : (KK P pwQ).lookup f = some (fun1 (f - 1) modV .none (fName pwQ i) (qualM (fName pwQ i)) (fPar pwQ i) (fBody pwQ i) (fSc pwQ i))) (l2 : codeIn (KK P pwQ) (.ref (f - 1)) (qualM (fName pwQ i)) = true) : MethP pwQ (KK P pwQ) i nm f :=
  ⟨find, isf, keep, fni, getf, tak, cop, qualM (fName pwQ i), .none, .none, modV, none, .ref (f - 1), .none, tFun, none, ⟨[]⟩, l1, l2⟩
theorem km_step (P : Params) : MethP pwQ (KK P pwQ) 16 (Str.ofString "step") 43 := meth_of (by kernel_rfl) (by kernel_rfl) (by kernel_rfl) (by kernel_rfl) (by kernel_rfl) (by kernel_rfl) (by kernel_rfl) (by kernel_rfl) (by kernel_rfl)
theorem km_ByteAt (P : Params) : MethP pwQ (KK P pwQ) 20 (Str.ofString "ByteAt") 71 := meth_of (by kernel_rfl) (by kernel_rfl) (by kernel_rfl) (by kernel_rfl) (by kernel_rfl) (by kernel_rfl) (by kernel_rfl) (by kernel_rfl) (by kernel_rfl)
theorem km_ProgramCounter (P : Params) : MethP pwQ (KK P pwQ) 23 (Str.ofString "ProgramCounter") 92 := meth_of (by kernel_rfl) (by kernel_rfl) (by kernel_rfl) (by kernel_rfl) (by kernel_rfl) (by kernel_rfl) (by kernel_rfl) (by kernel_rfl) (by kernel_rfl)
theorem km_ZeroPageAddr (P : Params) : MethP pwQ (KK P pwQ) 25 (Str.ofString "ZeroPageAddr") 106 := meth_of (by kernel_rfl) (by kernel_rfl) (by kernel_rfl) (by kernel_rfl) (by kernel_rfl) (by kernel_rfl) (by kernel_rfl) (by kernel_rfl) (by kernel_rfl)
theorem km_stPush (P : Params) : MethP pwQ (KK P pwQ) 34 (Str.ofString "stPush") 169 := meth_of (by kernel_rfl) (by kernel_rfl) (by kernel_rfl) (by kernel_rfl) (by kernel_rfl) (by kernel_rfl) (by kernel_rfl) (by kernel_rfl) (by kernel_rfl)
theorem km_stPop (P : Params) : MethP pwQ (KK P pwQ) 35 (Str.ofString "stPop") 176 := meth_of (by kernel_rfl) (by kernel_rfl) (by kernel_rfl) (by kernel_rfl) (by kernel_rfl) (by kernel_rfl) (by kernel_rfl) (by kernel_rfl) (by kernel_rfl)
theorem km_FlagsNZ (P : Params) : MethP pwQ (KK P pwQ) 38 (Str.ofString "FlagsNZ") 197 := meth_of (by kernel_rfl) (by kernel_rfl) (by kernel_rfl) (by kernel_rfl) (by kernel_rfl) (by kernel_rfl) (by kernel_rfl) (by kernel_rfl) (by kernel_rfl)
theorem km_opASL (P : Params) : MethP pwQ (KK P pwQ) 40 (Str.ofString "opASL") 211 := meth_of (by kernel_rfl) (by kernel_rfl) (by kernel_rfl) (by kernel_rfl) (by kernel_rfl) (by kernel_rfl) (by kernel_rfl) (by kernel_rfl) (by kernel_rfl)
theorem km_opLSR (P : Params) : MethP pwQ (KK P pwQ) 41 (Str.ofString "opLSR") 218 := meth_of (by kernel_rfl) (by kernel_rfl) (by kernel_rfl) (by kernel_rfl) (by kernel_rfl) (by kernel_rfl) (by kernel_rfl) (by kernel_rfl) (by kernel_rfl)
theorem km_opROL (P : Params) : MethP pwQ (KK P pwQ) 48 (Str.ofString "opROL") 267 := meth_of (by kernel_rfl) (by kernel_rfl) (by kernel_rfl) (by kernel_rfl) (by kernel_rfl) (by kernel_rfl) (by kernel_rfl) (by kernel_rfl) (by kernel_rfl)
theorem km_opADC (P : Params) : MethP pwQ (KK P pwQ) 50 (Str.ofString "opADC") 281 := meth_of (by kernel_rfl) (by kernel_rfl) (by kernel_rfl) (by kernel_rfl) (by kernel_rfl) (by kernel_rfl) (by kernel_rfl) (by kernel_rfl) (by kernel_rfl)
theorem km_opSBC (P : Params) : MethP pwQ (KK P pwQ) 56 (Str.ofString "opSBC") 323 := meth_of (by kernel_rfl) (by kernel_rfl) (by kernel_rfl) (by kernel_rfl) (by kernel_rfl) (by kernel_rfl) (by kernel_rfl) (by kernel_rfl) (by kernel_rfl)
theorem km_opSTA (P : Params) : MethP pwQ (KK P pwQ) 52 (Str.ofString "opSTA") 295 := meth_of (by kernel_rfl) (by kernel_rfl) (by kernel_rfl) (by kernel_rfl) (by kernel_rfl) (by kernel_rfl) (by kernel_rfl) (by kernel_rfl) (by kernel_rfl)
theorem km_opCMPR (P : Params) : MethP pwQ (KK P pwQ) 55 (Str.ofString "opCMPR") 316 := meth_of (by kernel_rfl) (by kernel_rfl) (by kernel_rfl) (by kernel_rfl) (by kernel_rfl) (by kernel_rfl) (by kernel_rfl) (by kernel_rfl) (by kernel_rfl)
theorem km_opINCR (P : Params) : MethP pwQ (KK P pwQ) 58 (Str.ofString "opINCR") 337 := meth_of (by kernel_rfl) (by kernel_rfl) (by kernel_rfl) (by kernel_rfl) (by kernel_rfl) (by kernel_rfl) (by kernel_rfl) (by kernel_rfl) (by kernel_rfl)
theorem km_opLDA (P : Params) : MethP pwQ (KK P pwQ) 59 (Str.ofString "opLDA") 344 := meth_of (by kernel_rfl) (by kernel_rfl) (by kernel_rfl) (by kernel_rfl) (by kernel_rfl) (by kernel_rfl) (by kernel_rfl) (by kernel_rfl) (by kernel_rfl)
theorem km_opLDY (P : Params) : MethP pwQ (KK P pwQ) 60 (Str.ofString "opLDY") 351 := meth_of (by kernel_rfl) (by kernel_rfl) (by kernel_rfl) (by kernel_rfl) (by kernel_rfl) (by kernel_rfl) (by kernel_rfl) (by kernel_rfl) (by kernel_rfl)
theorem km_opLDX (P : Params) : MethP pwQ (KK P pwQ) 61 (Str.ofString "opLDX") 358 := meth_of (by kernel_rfl) (by kernel_rfl) (by kernel_rfl) (by kernel_rfl) (by kernel_rfl) (by kernel_rfl) (by kernel_rfl) (by kernel_rfl) (by kernel_rfl)
theorem km_opSET (P : Params) : MethP pwQ (KK P pwQ) 45 (Str.ofString "opSET") 246 := meth_of (by kernel_rfl) (by kernel_rfl) (by kernel_rfl) (by kernel_rfl) (by kernel_rfl) (by kernel_rfl) (by kernel_rfl) (by kernel_rfl) (by kernel_rfl)
theorem km_inst_0xa9 (P : Params) : MethP pwQ (KK P pwQ) 160 (Str.ofString "inst_0xa9") 1051 := meth_of (by kernel_rfl) (by kernel_rfl) (by kernel_rfl) (by kernel_rfl) (by kernel_rfl) (by kernel_rfl) (by kernel_rfl) (by kernel_rfl) (by kernel_rfl)
theorem km_inst_0xa2 (P : Params) : MethP pwQ (KK P pwQ) 155 (Str.ofString "inst_0xa2") 1016 := meth_of (by kernel_rfl) (by kernel_rfl) (by kernel_rfl) (by kernel_rfl) (by kernel_rfl) (by kernel_rfl) (by kernel_rfl) (by kernel_rfl) (by kernel_rfl)
theorem km_inst_0xa0 (P : Params) : MethP pwQ (KK P pwQ) 153 (Str.ofString "inst_0xa0") 1002 := meth_of (by kernel_rfl) (by kernel_rfl) (by kernel_rfl) (by kernel_rfl) (by kernel_rfl) (by kernel_rfl) (by kernel_rfl) (by kernel_rfl) (by kernel_rfl)
theorem km_inst_0x69 (P : Params) : MethP pwQ (KK P pwQ) 122 (Str.ofString "inst_0x69") 785 := meth_of (by kernel_rfl) (by kernel_rfl) (by kernel_rfl) (by kernel_rfl) (by kernel_rfl) (by kernel_rfl) (by kernel_rfl) (by kernel_rfl) (by kernel_rfl)
theorem km_inst_0xe9 (P : Params) : MethP pwQ (KK P pwQ) 201 (Str.ofString "inst_0xe9") 1338 := meth_of (by kernel_rfl) (by kernel_rfl) (by kernel_rfl) (by kernel_rfl) (by kernel_rfl) (by kernel_rfl) (by kernel_rfl) (by kernel_rfl) (by kernel_rfl)
theorem km_inst_0xc9 (P : Params) : MethP pwQ (KK P pwQ) 182 (Str.ofString "inst_0xc9") 1205 := meth_of (by kernel_rfl) (by kernel_rfl) (by kernel_rfl) (by kernel_rfl) (by kernel_rfl) (by kernel_rfl) (by kernel_rfl) (by kernel_rfl) (by kernel_rfl)
theorem km_inst_0x85 (P : Params) : MethP pwQ (KK P pwQ) 137 (Str.ofString "inst_0x85") 890 := meth_of (by kernel_rfl) (by kernel_rfl) (by kernel_rfl) (by kernel_rfl) (by kernel_rfl) (by kernel_rfl) (by kernel_rfl) (by kernel_rfl) (by kernel_rfl)
theorem km_inst_0xa5 (P : Params) : MethP pwQ (KK P pwQ) 157 (Str.ofString "inst_0xa5") 1030 := meth_of (by kernel_rfl) (by kernel_rfl) (by kernel_rfl) (by kernel_rfl) (by kernel_rfl) (by kernel_rfl) (by kernel_rfl) (by kernel_rfl) (by kernel_rfl)
theorem km_inst_0xe6 (P : Params) : MethP pwQ (KK P pwQ) 199 (Str.ofString "inst_0xe6") 1324 := meth_of (by kernel_rfl) (by kernel_rfl) (by kernel_rfl) (by kernel_rfl) (by kernel_rfl) (by kernel_rfl) (by kernel_rfl) (by kernel_rfl) (by kernel_rfl)
theorem km_inst_0x0a (P : Params) : MethP pwQ (KK P pwQ) 69 (Str.ofString "inst_0x0a") 414 := meth_of (by kernel_rfl) (by kernel_rfl) (by kernel_rfl) (by kernel_rfl) (by kernel_rfl) (by kernel_rfl) (by kernel_rfl) (by kernel_rfl) (by kernel_rfl)
theorem km_inst_0x4a (P : Params) : MethP pwQ (KK P pwQ) 105 (Str.ofString "inst_0x4a") 666 := meth_of (by kernel_rfl) (by kernel_rfl) (by kernel_rfl) (by kernel_rfl) (by kernel_rfl) (by kernel_rfl) (by kernel_rfl) (by kernel_rfl) (by kernel_rfl)
theorem km_inst_0x2a (P : Params) : MethP pwQ (KK P pwQ) 87 (Str.ofString "inst_0x2a") 540 := meth_of (by kernel_rfl) (by kernel_rfl) (by kernel_rfl) (by kernel_rfl) (by kernel_rfl) (by kernel_rfl) (by kernel_rfl) (by kernel_rfl) (by kernel_rfl)
theorem km_inst_0xaa (P : Params) : MethP pwQ (KK P pwQ) 161 (Str.ofString "inst_0xaa") 1058 := meth_of (by kernel_rfl) (by kernel_rfl) (by kernel_rfl) (by kernel_rfl) (by kernel_rfl) (by kernel_rfl) (by kernel_rfl) (by kernel_rfl) (by kernel_rfl)
theorem km_inst_0x48 (P : Params) : MethP pwQ (KK P pwQ) 103 (Str.ofString "inst_0x48") 652 := meth_of (by kernel_rfl) (by kernel_rfl) (by kernel_rfl) (by kernel_rfl) (by kernel_rfl) (by kernel_rfl) (by kernel_rfl) (by kernel_rfl) (by kernel_rfl)
theorem km_inst_0x68 (P : Params) : MethP pwQ (KK P pwQ) 121 (Str.ofString "inst_0x68") 778 := meth_of (by kernel_rfl) (by kernel_rfl) (by kernel_rfl) (by kernel_rfl) (by kernel_rfl) (by kernel_rfl) (by kernel_rfl) (by kernel_rfl) (by kernel_rfl)
theorem km_inst_0x38 (P : Params) : MethP pwQ (KK P pwQ) 95 (Str.ofString "inst_0x38") 596 := meth_of (by kernel_rfl) (by kernel_rfl) (by kernel_rfl) (by kernel_rfl) (by kernel_rfl) (by kernel_rfl) (by kernel_rfl) (by kernel_rfl) (by kernel_rfl)
theorem km_reset (P : Params) : MethP pwQ (KK P pwQ) 17 (Str.ofString "reset") 50 := meth_of (by kernel_rfl) (by kernel_rfl) (by kernel_rfl) (by kernel_rfl) (by kernel_rfl) (by kernel_rfl) (by kernel_rfl) (by kernel_rfl) (by kernel_rfl)
noncomputable def esOf : Stmt → List PySem.Expr
  | .Assign _ (.List es _) _ => es
  | _ => []
theorem listV : Value.type "list" = tList := congrArg Value.type PySem.W.SL.e9222952809800978799x4
theorem k_lx (P : Params) : ∃ (l : List Value) (n : Nat) (dd : Option Addr) (sl : Array (Option Value)), (KK P pwQ).lookup 1425 = some ⟨.type "list", dd, .seq l.toArray n, sl⟩ ∧ ∀ k ∈ opcodes, ∃ e t, l[k]? = some (.int e t) := by
  refine ⟨itemsOf 1968 (esOf (nthS 216 (clsSts pwQ))), 0, none, ⟨[]⟩, by rw [listV]; kernel_rfl, ?_⟩
  have h : (opcodes.all fun k => match (itemsOf 1968 (esOf (nthS 216 (clsSts pwQ))))[k]? with | some (.int _ _) => true | _ => false) = true := by kernel_rfl
  intro k hk
  have := List.all_eq_true.mp h k hk
  revert this
  cases (itemsOf 1968 (esOf (nthS 216 (clsSts pwQ))))[k]? with
  | none => intro q; cases q
  | some v => cases v <;> first | (intro; exact ⟨_, _, rfl⟩) | (intro q; cases q)
theorem k_lc (P : Params) : ∃ (l : List Value) (n : Nat) (dd : Option Addr) (sl : Array (Option Value)), (KK P pwQ).lookup 1424 = some ⟨.type "list", dd, .seq l.toArray n, sl⟩ ∧ ∀ k ∈ opcodes, ∃ e t, l[k]? = some (.int e t) := by
  refine ⟨itemsOf 1711 (esOf (nthS 215 (clsSts pwQ))), 0, none, ⟨[]⟩, by rw [listV]; kernel_rfl, ?_⟩
  have h : (opcodes.all fun k => match (itemsOf 1711 (esOf (nthS 215 (clsSts pwQ))))[k]? with | some (.int _ _) => true | _ => false) = true := by kernel_rfl
  intro k hk
  have := List.all_eq_true.mp h k hk
  revert this
  cases (itemsOf 1711 (esOf (nthS 215 (clsSts pwQ))))[k]? with
  | none => intro q; cases q
  | some v => cases v <;> first | (intro; exact ⟨_, _, rfl⟩) | (intro q; cases q)
theorem k_li (P : Params) : ∃ (l : List Value) (n : Nat) (dd : Option Addr) (sl : Array (Option Value)), (KK P pwQ).lookup 1423 = some ⟨.type "list", dd, .seq l.toArray n, sl⟩ ∧ ∀ p ∈ opfns, l[p.1]? = some (.ref p.2) := by
  refine ⟨refsOf insA, 0, none, ⟨[]⟩, by rw [listV]; kernel_rfl, ?_⟩
  have h : (opfns.all fun p => match (refsOf insA)[p.1]? with | some (.ref a) => Nat.beq a p.2 | _ => false) = true := by kernel_rfl
  intro p hp
  have := List.all_eq_true.mp h p hp
  revert this
  cases (refsOf insA)[p.1]? with
  | none => intro q; cases q
  | some v => cases v <;> first | (intro q; exact congrArg (fun x => some (Value.ref x)) (Nat.eq_of_beq_eq_true q)) | (intro q; cases q)
theorem kfQ (P : Params) : KFp pwQ (KK P pwQ) where
  dict := by kernel_rfl
  over := by kernel_rfl
  setA := by kernel_rfl
  get := by kernel_rfl
  i_pc := ⟨by kernel_rfl, by kernel_rfl⟩
  i_sp := ⟨by kernel_rfl, by kernel_rfl⟩
  i_a := ⟨by kernel_rfl, by kernel_rfl⟩
  i_x := ⟨by kernel_rfl, by kernel_rfl⟩
  i_y := ⟨by kernel_rfl, by kernel_rfl⟩
  i_p := ⟨by kernel_rfl, by kernel_rfl⟩
  i_excycles := ⟨by kernel_rfl, by kernel_rfl⟩
  i_byteMask := ⟨by kernel_rfl, by kernel_rfl⟩
  i_addrMask := ⟨by kernel_rfl, by kernel_rfl⟩
  i_spBase := ⟨by kernel_rfl, by kernel_rfl⟩
  i_processorCycles := ⟨by kernel_rfl, by kernel_rfl⟩
  i_memory := ⟨by kernel_rfl, by kernel_rfl⟩
  i_addcycles := ⟨by kernel_rfl, by kernel_rfl⟩
  c_NEGATIVE := ⟨214, by kernel_rfl, by kernel_rfl⟩
  c_OVERFLOW := ⟨216, by kernel_rfl, by kernel_rfl⟩
  c_DECIMAL := ⟨222, by kernel_rfl, by kernel_rfl⟩
  c_ZERO := ⟨226, by kernel_rfl, by kernel_rfl⟩
  c_CARRY := ⟨228, by kernel_rfl, by kernel_rfl⟩
  t_instruct := ⟨by kernel_rfl, by kernel_rfl⟩
  t_cycletime := ⟨by kernel_rfl, by kernel_rfl⟩
  t_extracycles := ⟨by kernel_rfl, by kernel_rfl⟩
  m_step := km_step P
  m_ByteAt := km_ByteAt P
  m_ProgramCounter := km_ProgramCounter P
  m_ZeroPageAddr := km_ZeroPageAddr P
  m_stPush := km_stPush P
  m_stPop := km_stPop P
  m_FlagsNZ := km_FlagsNZ P
  m_opASL := km_opASL P
  m_opLSR := km_opLSR P
  m_opROL := km_opROL P
  m_opADC := km_opADC P
  m_opSBC := km_opSBC P
  m_opSTA := km_opSTA P
  m_opCMPR := km_opCMPR P
  m_opINCR := km_opINCR P
  m_opLDA := km_opLDA P
  m_opLDY := km_opLDY P
  m_opLDX := km_opLDX P
  m_opSET := km_opSET P
  m_inst_0xa9 := km_inst_0xa9 P
  m_inst_0xa2 := km_inst_0xa2 P
  m_inst_0xa0 := km_inst_0xa0 P
  m_inst_0x69 := km_inst_0x69 P
  m_inst_0xe9 := km_inst_0xe9 P
  m_inst_0xc9 := km_inst_0xc9 P
  m_inst_0x85 := km_inst_0x85 P
  m_inst_0xa5 := km_inst_0xa5 P
  m_inst_0xe6 := km_inst_0xe6 P
  m_inst_0x0a := km_inst_0x0a P
  m_inst_0x4a := km_inst_0x4a P
  m_inst_0x2a := km_inst_0x2a P
  m_inst_0xaa := km_inst_0xaa P
  m_inst_0x48 := km_inst_0x48 P
  m_inst_0x68 := km_inst_0x68 P
  m_inst_0x38 := km_inst_0x38 P
  lx := k_lx P
  lc := k_lc P
  li := k_li P
theorem kfx (P : Params) : KF (Kx P) := by
  have : ∀ p, p = pwQ → KFp p (KK P p) := fun p e => by subst e; exact kfQ P
  exact this _ pw_eq
/-- what the making of the machine asks -/
structure KIp (p : Program) (K : Frag) : Prop where
  makes : makesIn K Cc = true
  ini : findIn K (.ref Cc) "__init__" = some (some (.ref 36))
  inif : isFn K (.ref 36) = true
  keepC : keepIn K (.ref Cc) = true
  m_reset : MethP p K 17 (Str.ofString "reset") 50
  i_name : findIn K (.ref Cc) (Str.ofString "name") = some none ∧ takerIn K Cc (Str.ofString "name") = some none
  i_addrHighMask : findIn K (.ref Cc) (Str.ofString "addrHighMask") = some none ∧ takerIn K Cc (Str.ofString "addrHighMask") = some none
  i_start_pc : findIn K (.ref Cc) (Str.ofString "start_pc") = some none ∧ takerIn K Cc (Str.ofString "start_pc") = some none
  c_BYTE_WIDTH : ∃ t, findIn K (.ref Cc) (Str.ofString "BYTE_WIDTH") = some (some (.int 8 t)) ∧ specialIn K (.int 8 t) "__get__" = some none
  c_ADDR_WIDTH : ∃ t, findIn K (.ref Cc) (Str.ofString "ADDR_WIDTH") = some (some (.int 16 t)) ∧ specialIn K (.int 16 t) "__get__" = some none
  c_BREAK : ∃ t, findIn K (.ref Cc) (Str.ofString "BREAK") = some (some (.int 16 t)) ∧ specialIn K (.int 16 t) "__get__" = some none
  c_UNUSED : ∃ t, findIn K (.ref Cc) (Str.ofString "UNUSED") = some (some (.int 32 t)) ∧ specialIn K (.int 32 t) "__get__" = some none
  g_MPU : nsIn K mainGlobals (Str.ofString "MPU") = some (some (.ref Cc))
  g_range : nsIn K mainGlobals (Str.ofString "range") = some none
  g_len : nsIn K mainGlobals (Str.ofString "len") = some none
  look : ∃ dfv, K.lookup 36 = some (fun1 35 modV (.ref 29) (fName p 15) (qualM (fName p 15)) (fPar p 15) (fBody p 15) (fSc p 15)) ∧ codeIn K (.ref 35) (qualM (fName p 15)) = true ∧ K.lookup 29 = some (tupO [.none, .int 0 dfv])
theorem kiQ (P : Params) : KIp pwQ (KK P pwQ) where
  makes := by kernel_rfl
  ini := by kernel_rfl
  inif := by kernel_rfl
  keepC := by kernel_rfl
  m_reset := km_reset P
  i_name := ⟨by kernel_rfl, by kernel_rfl⟩
  i_addrHighMask := ⟨by kernel_rfl, by kernel_rfl⟩
  i_start_pc := ⟨by kernel_rfl, by kernel_rfl⟩
  c_BYTE_WIDTH := ⟨230, by kernel_rfl, by kernel_rfl⟩
  c_ADDR_WIDTH := ⟨234, by kernel_rfl, by kernel_rfl⟩
  c_BREAK := ⟨220, by kernel_rfl, by kernel_rfl⟩
  c_UNUSED := ⟨218, by kernel_rfl, by kernel_rfl⟩
  g_MPU := by kernel_rfl
  g_range := by kernel_rfl
  g_len := by kernel_rfl
  look := ⟨238, by kernel_rfl, by kernel_rfl, by kernel_rfl⟩
abbrev KI := KIp pw
theorem kix (P : Params) : KI (Kx P) := by
  have : ∀ p, p = pwQ → KIp p (KK P p) := fun p e => by subst e; exact kiQ P
  exact this _ pw_eq
end
section
/-- a name's value in the frame's list -/
inductive At : List (Str × Value) → Str → Value → Prop
  | here {n v l} : At ((n, v) :: l) n v
  | there {n n' v v' l} : (n == n') = false → At l n v → At ((n', v') :: l) n v
theorem At.look {l : List (Str × Value)} {n : Str} {v : Value} (h : At l n v) : l.lookup n = some v := by
  induction h with
  | here => simp
  | there e _ ih => rw [List.lookup_cons, e]; exact ih
theorem lk_cons (n : Str) (v : Value) (l : List (Str × Value)) : (fun y => if y = n then some v else Lk l y) = Lk ((n, v) :: l) := by
  funext y
  show _ = List.lookup y ((n, v) :: l)
  rw [List.lookup_cons]
  by_cases e : y = n
  · subst e; simp
  · rw [if_neg e, beq_eq_false_iff_ne.mpr e]
abbrev plOf (sn : Str) (p1 : Pos) (env : Env) : Sem Bool := do return (← importBound (.Name sn p1) env).getD true
section
variable {og o9 : OsState × Drawn} {g9 : Array GenState} {K : Frag} {n : Nat} {A : Around} {env : Env} {h₀ : Heap} {L x d M f : Addr} {rest : List (Addr × Obj)} {l : List (Str × Value)} {S S' : MS} {s : Shared} {w : World} {prog : Program} {E : Value → Shared → Prop}
  {q : Str} {sc : Scope} {cd : Value} {nm : Str} {pos : Pos}
theorem r_loc {v : Value} {Q : Value → Shared → Prop} (ok : Ok og w x d M rest h₀ L l S s.heap (s.os, s.drawn) s.gens) (hm : At l nm v) (h : Q v s) (hk : sc.kind = .function := by kernel_rfl) (hl : (envOf q sc L f cd).kindOf nm = some .local := by kernel_rfl)
    (hd : (nm == ("__debug__" : Str)) = false := by kernel_rfl) : wpAny (model prog w) A (eval (.Name nm pos) (envOf q sc L f cd)) Q E s := ld ok.F hm.look h hk hl hd
theorem r_ldn {v : Value} {Q : Value → Shared → Prop} (ok : Ok og w x d M rest h₀ L l S s.heap (s.os, s.drawn) s.gens) (hm : At l nm v) (h : Q v s) (hk : sc.kind = .function := by kernel_rfl) (hl : (envOf q sc L f cd).kindOf nm = some .local := by kernel_rfl) :
    wpAny (model prog w) A (loadName (envOf q sc L f cd) nm) Q E s := ldn ok.F hm.look h hk hl
theorem Ok.store {v : Value} {h h' : Heap} (ok : Ok og w x d M rest h₀ L l S h o9 g9) (hn : h'.Ns L (fun y => if y = nm then some v else Lk l y)) (hs : Heap.SameBut L h h') : Ok og w x d M rest h₀ L ((nm, v) :: l) S h' o9 g9 := by
  obtain ⟨F, k, v', dn, c, vs, N, hv, hi, ho9⟩ := ok
  have F' := F.set hn hs
  rw [lk_cons] at F'
  exact ⟨F', k, v', dn, c, vs, N.set hs, hv, hi, ho9⟩
theorem r_sto {v : Value} {Q : Unit → Shared → Prop} (ok : Ok og w x d M rest h₀ L l S s.heap (s.os, s.drawn) s.gens) (h : ∀ s', Ok og w x d M rest h₀ L ((nm, v) :: l) S s'.heap (s'.os, s'.drawn) s'.gens → Q () s') (hk : sc.kind = .function := by kernel_rfl) (hl : (envOf q sc L f cd).kindOf nm = some .local := by kernel_rfl) :
    wpAny (model prog w) A (storeName (envOf q sc L f cd) nm v) Q E s :=
  wpAny_storeName_local hl ok.F.ns (fun h' hn hs => h _ (ok.store hn hs)) (by show (sc.kind == .class || (sc.kind == .module && L != mainGlobals)) = false; rw [hk]; rfl)
theorem inst_of {k : Nat → Tok} {v : AV} {dn : Nat} {r : List (Addr × Obj)} {h : Heap} (N : News h₀ L h ((x, instObj Cc d) :: (d, dictOf (ents w k v) dn) :: r)) : InstAt h x (instObj Cc d) Cc (some (dictOf (ents w k v) dn)) :=
  InstAt.of_news N (.head _) (.tail _ (.head _))
/-- an attribute of the machine's own -/
theorem r_own {Q : Value → Shared → Prop} (sel : AV → Value) (P : Value → Prop) (kf : KF K) (cx : Cx K n A env h₀ L) (ok : Ok og w x d M rest h₀ L l S s.heap (s.os, s.drawn) s.gens) (hf : findIn K (.ref Cc) nm = some none) (hl : ∀ k v, getL nm (ents w k v) = some (some (sel v)))
    (hs : ∀ v, Vals v S M → handedIn (sel v) = true ∧ P (sel v)) (h : ∀ u s', P u → Ok og w x d M rest h₀ L l S s'.heap (s'.os, s'.drawn) s'.gens → Q u s') : wpAny (model prog w) A (getAttr (.ref x) nm true) Q E s := by
  obtain ⟨F, k, v, dn, c, vs, N, hv, hi, ho9⟩ := ok
  exact get_own F cx.X (inst_of N) (kf.pg nm) kf.dict hf rfl (hl k v) (hs v hv).1 (h _ _ (hs v hv).2 ⟨F, k, v, dn, c, vs, N, hv, hi, ho9⟩)
/-- an attribute of the class -/
theorem r_cls {Q : Value → Shared → Prop} {a : Value} (kf : KF K) (cx : Cx K n A env h₀ L) (ok : Ok og w x d M rest h₀ L l S s.heap (s.os, s.drawn) s.gens) (hf : findIn K (.ref Cc) nm = some (some a)) (hg : specialIn K a "__get__" = some none) (ha : handedIn a = true) (hc : copiedNames.contains nm = false)
    (hl : ∀ k v, getL nm (ents w k v) = some none) (h : ∀ s', Ok og w x d M rest h₀ L l S s'.heap (s'.os, s'.drawn) s'.gens → Q a s') : wpAny (model prog w) A (getAttr (.ref x) nm true) Q E s := by
  obtain ⟨F, k, v, dn, c, vs, N, hv, hi, ho9⟩ := ok
  exact get_cls F cx.X (inst_of N) (kf.pg nm) kf.dict hf hg ha hc (hl k v) (h _ ⟨F, k, v, dn, c, vs, N, hv, hi, ho9⟩)
/-- a method, bound -/
theorem r_bound {i : Nat} {g : Addr} {Q : Value → Shared → Prop} (kf : KF K) (mt : Meth K i nm g) (cx : Cx K n A env h₀ L) (ap : Ap x d M rest) (ok : Ok og w x d M rest h₀ L l S s.heap (s.os, s.drawn) s.gens) (hl : ∀ k v, getL nm (ents w k v) = some none)
    (h : ∀ b s', Ap x d M ((b, methodObj (.ref g) (.ref x)) :: rest) → Ok og w x d M ((b, methodObj (.ref g) (.ref x)) :: rest) h₀ L l S s'.heap (s'.os, s'.drawn) s'.gens → Q (.ref b) s') : wpAny (model prog w) A (getAttr (.ref x) nm true) Q E s := by
  obtain ⟨F, k, v, dn, c, vs, N, hv, hi, ho9⟩ := ok
  refine kbm_bound F cx.X N (inst_of N) (kf.pg nm) kf.dict mt.find mt.isf mt.getf mt.tak mt.cop (hl k v) fun b h' F' N' lt => ?_
  have hd' := lt (d, _) (.tail _ (.head _))
  have hM' := lt (M, _) (.tail _ (.tail _ (.head _)))
  dsimp only at hd' hM'
  refine h b _ ⟨ap.xd, ap.Md, ap.xM, ?_, ?_⟩ ⟨F', k, v, dn, c, vs, fun p hp => N' p ?_, hv, hi, ho9⟩
  · intro p hp
    rcases List.mem_cons.mp hp with rfl | hp
    · exact Nat.ne_of_gt hd'
    · exact ap.rd p hp
  · intro p hp
    rcases List.mem_cons.mp hp with rfl | hp
    · exact Nat.ne_of_gt hM'
    · exact ap.rM p hp
  · simp only [List.mem_cons] at hp ⊢
    rcases hp with e | e | e | e | e
    · exact .inr (.inl e)
    · exact .inr (.inr (.inl e))
    · exact .inr (.inr (.inr (.inl e)))
    · exact .inl e
    · exact .inr (.inr (.inr (.inr e)))
/-- fewer things are kept -/
theorem Ok.drop {p : Addr × Obj} {h : Heap} (ok : Ok og w x d M (p :: rest) h₀ L l S h o9 g9) : Ok og w x d M rest h₀ L l S h o9 g9 := by
  obtain ⟨F, k, v, dn, c, vs, N, hv, hi, ho9⟩ := ok
  exact ⟨F, k, v, dn, c, vs, fun p hp => N p (by simp only [List.mem_cons] at hp ⊢; rcases hp with e | e | e | e; exact .inl e; exact .inr (.inl e); exact .inr (.inr (.inl e)); exact .inr (.inr (.inr (.inr e)))), hv, hi, ho9⟩
/-- the machine's method, to be called -/
theorem r_meth {i : Nat} {g : Addr} {pl : Sem Bool} {Q : Value × List Value → Shared → Prop} (kf : KF K) (mt : Meth K i nm g) (cx : Cx K n A env h₀ L) (ok : Ok og w x d M rest h₀ L l S s.heap (s.os, s.drawn) s.gens) (hl : ∀ k v, getL nm (ents w k v) = some none)
    (h : Q (.ref g, [.ref x]) s) : wpAny (model prog w) A (getMethod (.ref x) nm pl) Q E s := by
  obtain ⟨F, k, v, dn, c, vs, N, hv, hi, ho9⟩ := ok
  exact method_inst F cx.X (inst_of N) (kf.pg nm) mt.find mt.isf (hl k v) h
/-- a store into the machine's dict -/
theorem r_set {val : Value} {Q : Unit → Shared → Prop} (upd : AV → Value → AV) (kf : KF K) (cx : Cx K n A env h₀ L) (ap : Ap x d M rest) (ok : Ok og w x d M rest h₀ L l S s.heap (s.os, s.drawn) s.gens) (ht : takerIn K Cc nm = some none)
    (hp : ∀ k v t u, putL nm (PyData.keyHash w.params nm) (.str nm t) u (ents w k v) = ents w k (upd v u)) (hn : ∀ k v m, putN nm (ents w k v) m = m) (hg : ∀ k v, (getL nm (ents w k v)).isSome = true)
    (hS : ∀ v, Vals v S M → Vals (upd v val) S' M) (hm : S'.mem = S.mem) (h : ∀ s', Ok og w x d M rest h₀ L l S' s'.heap (s'.os, s'.drawn) s'.gens → Q () s') : wpAny (model prog w) A (setAttr (.ref x) nm val) Q E s := by
  obtain ⟨F, k, v, dn, c, vs, N, hv, hi, ho9⟩ := ok
  refine set_dict F cx.X N (inst_of N) rfl kf.setA kf.over ht kf.dict (hg k v) (Prod.ext (hp k v _ val) (hn k v dn)) (.tail ap.xd (.head fun p hp => ?_)) (by show 16 ≤ 1000; omega) fun h' F' N' => h _ ⟨F', k, upd v val, dn, c, vs, N', hS v hv, hm ▸ hi, ho9⟩
  rcases List.mem_cons.mp hp with rfl | hp
  · exact ap.Md
  · exact ap.rd p hp
theorem g_pc {Q : Value → Shared → Prop} (kf : KF K) (cx : Cx K n A env h₀ L) (ok : Ok og w x d M rest h₀ L l S s.heap (s.os, s.drawn) s.gens) (h : ∀ t s', Ok og w x d M rest h₀ L l S s'.heap (s'.os, s'.drawn) s'.gens → Q (.int S.pc t) s') :
    wpAny (model prog w) A (getAttr (.ref x) (Str.ofString "pc") true) Q E s :=
  r_own AV.pc (fun v => IsI v S.pc) kf cx ok kf.i_pc.1 (fun _ _ => by kernel_rfl) (fun v hv => ⟨by obtain ⟨t, e⟩ := hv.pc; rw [e]; rfl, hv.pc⟩) fun u s' hu ok' => by obtain ⟨t, rfl⟩ := hu; exact h t s' ok'
theorem g_sp {Q : Value → Shared → Prop} (kf : KF K) (cx : Cx K n A env h₀ L) (ok : Ok og w x d M rest h₀ L l S s.heap (s.os, s.drawn) s.gens) (h : ∀ t s', Ok og w x d M rest h₀ L l S s'.heap (s'.os, s'.drawn) s'.gens → Q (.int S.sp t) s') :
    wpAny (model prog w) A (getAttr (.ref x) (Str.ofString "sp") true) Q E s :=
  r_own AV.sp (fun v => IsI v S.sp) kf cx ok kf.i_sp.1 (fun _ _ => by kernel_rfl) (fun v hv => ⟨by obtain ⟨t, e⟩ := hv.sp; rw [e]; rfl, hv.sp⟩) fun u s' hu ok' => by obtain ⟨t, rfl⟩ := hu; exact h t s' ok'
theorem g_a {Q : Value → Shared → Prop} (kf : KF K) (cx : Cx K n A env h₀ L) (ok : Ok og w x d M rest h₀ L l S s.heap (s.os, s.drawn) s.gens) (h : ∀ t s', Ok og w x d M rest h₀ L l S s'.heap (s'.os, s'.drawn) s'.gens → Q (.int S.a t) s') :
    wpAny (model prog w) A (getAttr (.ref x) (Str.ofString "a") true) Q E s :=
  r_own AV.a (fun v => IsI v S.a) kf cx ok kf.i_a.1 (fun _ _ => by kernel_rfl) (fun v hv => ⟨by obtain ⟨t, e⟩ := hv.a; rw [e]; rfl, hv.a⟩) fun u s' hu ok' => by obtain ⟨t, rfl⟩ := hu; exact h t s' ok'
theorem g_x {Q : Value → Shared → Prop} (kf : KF K) (cx : Cx K n A env h₀ L) (ok : Ok og w x d M rest h₀ L l S s.heap (s.os, s.drawn) s.gens) (h : ∀ t s', Ok og w x d M rest h₀ L l S s'.heap (s'.os, s'.drawn) s'.gens → Q (.int S.x t) s') :
    wpAny (model prog w) A (getAttr (.ref x) (Str.ofString "x") true) Q E s :=
  r_own AV.x (fun v => IsI v S.x) kf cx ok kf.i_x.1 (fun _ _ => by kernel_rfl) (fun v hv => ⟨by obtain ⟨t, e⟩ := hv.x; rw [e]; rfl, hv.x⟩) fun u s' hu ok' => by obtain ⟨t, rfl⟩ := hu; exact h t s' ok'
theorem g_y {Q : Value → Shared → Prop} (kf : KF K) (cx : Cx K n A env h₀ L) (ok : Ok og w x d M rest h₀ L l S s.heap (s.os, s.drawn) s.gens) (h : ∀ t s', Ok og w x d M rest h₀ L l S s'.heap (s'.os, s'.drawn) s'.gens → Q (.int S.y t) s') :
    wpAny (model prog w) A (getAttr (.ref x) (Str.ofString "y") true) Q E s :=
  r_own AV.y (fun v => IsI v S.y) kf cx ok kf.i_y.1 (fun _ _ => by kernel_rfl) (fun v hv => ⟨by obtain ⟨t, e⟩ := hv.y; rw [e]; rfl, hv.y⟩) fun u s' hu ok' => by obtain ⟨t, rfl⟩ := hu; exact h t s' ok'
theorem g_p {Q : Value → Shared → Prop} (kf : KF K) (cx : Cx K n A env h₀ L) (ok : Ok og w x d M rest h₀ L l S s.heap (s.os, s.drawn) s.gens) (h : ∀ t s', Ok og w x d M rest h₀ L l S s'.heap (s'.os, s'.drawn) s'.gens → Q (.int S.p t) s') :
    wpAny (model prog w) A (getAttr (.ref x) (Str.ofString "p") true) Q E s :=
  r_own AV.p (fun v => IsI v S.p) kf cx ok kf.i_p.1 (fun _ _ => by kernel_rfl) (fun v hv => ⟨by obtain ⟨t, e⟩ := hv.p; rw [e]; rfl, hv.p⟩) fun u s' hu ok' => by obtain ⟨t, rfl⟩ := hu; exact h t s' ok'
theorem g_excycles {Q : Value → Shared → Prop} (kf : KF K) (cx : Cx K n A env h₀ L) (ok : Ok og w x d M rest h₀ L l S s.heap (s.os, s.drawn) s.gens) (h : ∀ t s', Ok og w x d M rest h₀ L l S s'.heap (s'.os, s'.drawn) s'.gens → Q (.int S.ex t) s') :
    wpAny (model prog w) A (getAttr (.ref x) (Str.ofString "excycles") true) Q E s :=
  r_own AV.ex (fun v => IsI v S.ex) kf cx ok kf.i_excycles.1 (fun _ _ => by kernel_rfl) (fun v hv => ⟨by obtain ⟨t, e⟩ := hv.ex; rw [e]; rfl, hv.ex⟩) fun u s' hu ok' => by obtain ⟨t, rfl⟩ := hu; exact h t s' ok'
theorem g_byteMask {Q : Value → Shared → Prop} (kf : KF K) (cx : Cx K n A env h₀ L) (ok : Ok og w x d M rest h₀ L l S s.heap (s.os, s.drawn) s.gens) (h : ∀ t s', Ok og w x d M rest h₀ L l S s'.heap (s'.os, s'.drawn) s'.gens → Q (.int 255 t) s') :
    wpAny (model prog w) A (getAttr (.ref x) (Str.ofString "byteMask") true) Q E s :=
  r_own AV.bm (fun v => IsI v 255) kf cx ok kf.i_byteMask.1 (fun _ _ => by kernel_rfl) (fun v hv => ⟨by obtain ⟨t, e⟩ := hv.bm; rw [e]; rfl, hv.bm⟩) fun u s' hu ok' => by obtain ⟨t, rfl⟩ := hu; exact h t s' ok'
theorem g_addrMask {Q : Value → Shared → Prop} (kf : KF K) (cx : Cx K n A env h₀ L) (ok : Ok og w x d M rest h₀ L l S s.heap (s.os, s.drawn) s.gens) (h : ∀ t s', Ok og w x d M rest h₀ L l S s'.heap (s'.os, s'.drawn) s'.gens → Q (.int 65535 t) s') :
    wpAny (model prog w) A (getAttr (.ref x) (Str.ofString "addrMask") true) Q E s :=
  r_own AV.am (fun v => IsI v 65535) kf cx ok kf.i_addrMask.1 (fun _ _ => by kernel_rfl) (fun v hv => ⟨by obtain ⟨t, e⟩ := hv.am; rw [e]; rfl, hv.am⟩) fun u s' hu ok' => by obtain ⟨t, rfl⟩ := hu; exact h t s' ok'
theorem g_spBase {Q : Value → Shared → Prop} (kf : KF K) (cx : Cx K n A env h₀ L) (ok : Ok og w x d M rest h₀ L l S s.heap (s.os, s.drawn) s.gens) (h : ∀ t s', Ok og w x d M rest h₀ L l S s'.heap (s'.os, s'.drawn) s'.gens → Q (.int 256 t) s') :
    wpAny (model prog w) A (getAttr (.ref x) (Str.ofString "spBase") true) Q E s :=
  r_own AV.sb (fun v => IsI v 256) kf cx ok kf.i_spBase.1 (fun _ _ => by kernel_rfl) (fun v hv => ⟨by obtain ⟨t, e⟩ := hv.sb; rw [e]; rfl, hv.sb⟩) fun u s' hu ok' => by obtain ⟨t, rfl⟩ := hu; exact h t s' ok'
theorem s_pc {i : Int} {u : Tok} {Q : Unit → Shared → Prop} (kf : KF K) (cx : Cx K n A env h₀ L) (ap : Ap x d M rest) (ok : Ok og w x d M rest h₀ L l S s.heap (s.os, s.drawn) s.gens) (h : ∀ s', Ok og w x d M rest h₀ L l { S with pc := i } s'.heap (s'.os, s'.drawn) s'.gens → Q () s') :
    wpAny (model prog w) A (setAttr (.ref x) (Str.ofString "pc") (.int i u)) Q E s :=
  r_set (S' := { S with pc := i }) (fun v u => { v with pc := u }) kf cx ap ok kf.i_pc.2 (fun _ _ _ _ => by kernel_rfl) (fun _ _ _ => by kernel_rfl) (fun _ _ => by kernel_rfl) (fun v hv => { hv with pc := ⟨u, rfl⟩ }) rfl h
theorem s_sp {i : Int} {u : Tok} {Q : Unit → Shared → Prop} (kf : KF K) (cx : Cx K n A env h₀ L) (ap : Ap x d M rest) (ok : Ok og w x d M rest h₀ L l S s.heap (s.os, s.drawn) s.gens) (h : ∀ s', Ok og w x d M rest h₀ L l { S with sp := i } s'.heap (s'.os, s'.drawn) s'.gens → Q () s') :
    wpAny (model prog w) A (setAttr (.ref x) (Str.ofString "sp") (.int i u)) Q E s :=
  r_set (S' := { S with sp := i }) (fun v u => { v with sp := u }) kf cx ap ok kf.i_sp.2 (fun _ _ _ _ => by kernel_rfl) (fun _ _ _ => by kernel_rfl) (fun _ _ => by kernel_rfl) (fun v hv => { hv with sp := ⟨u, rfl⟩ }) rfl h
theorem s_a {i : Int} {u : Tok} {Q : Unit → Shared → Prop} (kf : KF K) (cx : Cx K n A env h₀ L) (ap : Ap x d M rest) (ok : Ok og w x d M rest h₀ L l S s.heap (s.os, s.drawn) s.gens) (h : ∀ s', Ok og w x d M rest h₀ L l { S with a := i } s'.heap (s'.os, s'.drawn) s'.gens → Q () s') :
    wpAny (model prog w) A (setAttr (.ref x) (Str.ofString "a") (.int i u)) Q E s :=
  r_set (S' := { S with a := i }) (fun v u => { v with a := u }) kf cx ap ok kf.i_a.2 (fun _ _ _ _ => by kernel_rfl) (fun _ _ _ => by kernel_rfl) (fun _ _ => by kernel_rfl) (fun v hv => { hv with a := ⟨u, rfl⟩ }) rfl h
theorem s_x {i : Int} {u : Tok} {Q : Unit → Shared → Prop} (kf : KF K) (cx : Cx K n A env h₀ L) (ap : Ap x d M rest) (ok : Ok og w x d M rest h₀ L l S s.heap (s.os, s.drawn) s.gens) (h : ∀ s', Ok og w x d M rest h₀ L l { S with x := i } s'.heap (s'.os, s'.drawn) s'.gens → Q () s') :
    wpAny (model prog w) A (setAttr (.ref x) (Str.ofString "x") (.int i u)) Q E s :=
  r_set (S' := { S with x := i }) (fun v u => { v with x := u }) kf cx ap ok kf.i_x.2 (fun _ _ _ _ => by kernel_rfl) (fun _ _ _ => by kernel_rfl) (fun _ _ => by kernel_rfl) (fun v hv => { hv with x := ⟨u, rfl⟩ }) rfl h
theorem s_y {i : Int} {u : Tok} {Q : Unit → Shared → Prop} (kf : KF K) (cx : Cx K n A env h₀ L) (ap : Ap x d M rest) (ok : Ok og w x d M rest h₀ L l S s.heap (s.os, s.drawn) s.gens) (h : ∀ s', Ok og w x d M rest h₀ L l { S with y := i } s'.heap (s'.os, s'.drawn) s'.gens → Q () s') :
    wpAny (model prog w) A (setAttr (.ref x) (Str.ofString "y") (.int i u)) Q E s :=
  r_set (S' := { S with y := i }) (fun v u => { v with y := u }) kf cx ap ok kf.i_y.2 (fun _ _ _ _ => by kernel_rfl) (fun _ _ _ => by kernel_rfl) (fun _ _ => by kernel_rfl) (fun v hv => { hv with y := ⟨u, rfl⟩ }) rfl h
theorem s_p {i : Int} {u : Tok} {Q : Unit → Shared → Prop} (kf : KF K) (cx : Cx K n A env h₀ L) (ap : Ap x d M rest) (ok : Ok og w x d M rest h₀ L l S s.heap (s.os, s.drawn) s.gens) (h : ∀ s', Ok og w x d M rest h₀ L l { S with p := i } s'.heap (s'.os, s'.drawn) s'.gens → Q () s') :
    wpAny (model prog w) A (setAttr (.ref x) (Str.ofString "p") (.int i u)) Q E s :=
  r_set (S' := { S with p := i }) (fun v u => { v with p := u }) kf cx ap ok kf.i_p.2 (fun _ _ _ _ => by kernel_rfl) (fun _ _ _ => by kernel_rfl) (fun _ _ => by kernel_rfl) (fun v hv => { hv with p := ⟨u, rfl⟩ }) rfl h
theorem s_excycles {i : Int} {u : Tok} {Q : Unit → Shared → Prop} (kf : KF K) (cx : Cx K n A env h₀ L) (ap : Ap x d M rest) (ok : Ok og w x d M rest h₀ L l S s.heap (s.os, s.drawn) s.gens) (h : ∀ s', Ok og w x d M rest h₀ L l { S with ex := i } s'.heap (s'.os, s'.drawn) s'.gens → Q () s') :
    wpAny (model prog w) A (setAttr (.ref x) (Str.ofString "excycles") (.int i u)) Q E s :=
  r_set (S' := { S with ex := i }) (fun v u => { v with ex := u }) kf cx ap ok kf.i_excycles.2 (fun _ _ _ _ => by kernel_rfl) (fun _ _ _ => by kernel_rfl) (fun _ _ => by kernel_rfl) (fun v hv => { hv with ex := ⟨u, rfl⟩ }) rfl h
theorem g_processorCycles {Q : Value → Shared → Prop} (kf : KF K) (cx : Cx K n A env h₀ L) (ok : Ok og w x d M rest h₀ L l S s.heap (s.os, s.drawn) s.gens) (h : ∀ i t s', Ok og w x d M rest h₀ L l S s'.heap (s'.os, s'.drawn) s'.gens → Q (.int i t) s') :
    wpAny (model prog w) A (getAttr (.ref x) (Str.ofString "processorCycles") true) Q E s :=
  r_own AV.cy (fun v => ∃ i, IsI v i) kf cx ok kf.i_processorCycles.1 (fun _ _ => by kernel_rfl) (fun v hv => ⟨by obtain ⟨i, t, e⟩ := hv.cy; rw [e]; rfl, hv.cy⟩) fun u s' hu ok' => by obtain ⟨i, t, rfl⟩ := hu; exact h i t s' ok'
theorem g_memory {Q : Value → Shared → Prop} (kf : KF K) (cx : Cx K n A env h₀ L) (ok : Ok og w x d M rest h₀ L l S s.heap (s.os, s.drawn) s.gens) (h : ∀ s', Ok og w x d M rest h₀ L l S s'.heap (s'.os, s'.drawn) s'.gens → Q (.ref M) s') :
    wpAny (model prog w) A (getAttr (.ref x) (Str.ofString "memory") true) Q E s :=
  r_own AV.me (fun v => v = .ref M) kf cx ok kf.i_memory.1 (fun _ _ => by kernel_rfl) (fun v hv => ⟨by rw [hv.me]; rfl, hv.me⟩) fun u s' hu ok' => by subst hu; exact h s' ok'
theorem s_processorCycles {i : Int} {u : Tok} {Q : Unit → Shared → Prop} (kf : KF K) (cx : Cx K n A env h₀ L) (ap : Ap x d M rest) (ok : Ok og w x d M rest h₀ L l S s.heap (s.os, s.drawn) s.gens) (h : ∀ s', Ok og w x d M rest h₀ L l S s'.heap (s'.os, s'.drawn) s'.gens → Q () s') :
    wpAny (model prog w) A (setAttr (.ref x) (Str.ofString "processorCycles") (.int i u)) Q E s :=
  r_set (S' := S) (fun v u => { v with cy := u }) kf cx ap ok kf.i_processorCycles.2 (fun _ _ _ _ => by kernel_rfl) (fun _ _ _ => by kernel_rfl) (fun _ _ => by kernel_rfl) (fun v hv => { hv with cy := ⟨i, u, rfl⟩ }) rfl h
theorem s_addcycles {val : Value} {Q : Unit → Shared → Prop} (kf : KF K) (cx : Cx K n A env h₀ L) (ap : Ap x d M rest) (ok : Ok og w x d M rest h₀ L l S s.heap (s.os, s.drawn) s.gens) (h : ∀ s', Ok og w x d M rest h₀ L l S s'.heap (s'.os, s'.drawn) s'.gens → Q () s') :
    wpAny (model prog w) A (setAttr (.ref x) (Str.ofString "addcycles") val) Q E s :=
  r_set (S' := S) (fun v u => { v with ad := u }) kf cx ap ok kf.i_addcycles.2 (fun _ _ _ _ => by kernel_rfl) (fun _ _ _ => by kernel_rfl) (fun _ _ => by kernel_rfl) (fun v hv => { hv with }) rfl h
theorem g_NEGATIVE {Q : Value → Shared → Prop} (kf : KF K) (cx : Cx K n A env h₀ L) (ok : Ok og w x d M rest h₀ L l S s.heap (s.os, s.drawn) s.gens) (h : ∀ t s', Ok og w x d M rest h₀ L l S s'.heap (s'.os, s'.drawn) s'.gens → Q (.int 128 t) s') :
    wpAny (model prog w) A (getAttr (.ref x) (Str.ofString "NEGATIVE") true) Q E s := by
  obtain ⟨t, e1, e2⟩ := kf.c_NEGATIVE
  exact r_cls kf cx ok e1 e2 rfl (by kernel_rfl) (fun _ _ => by kernel_rfl) (h t)
theorem g_OVERFLOW {Q : Value → Shared → Prop} (kf : KF K) (cx : Cx K n A env h₀ L) (ok : Ok og w x d M rest h₀ L l S s.heap (s.os, s.drawn) s.gens) (h : ∀ t s', Ok og w x d M rest h₀ L l S s'.heap (s'.os, s'.drawn) s'.gens → Q (.int 64 t) s') :
    wpAny (model prog w) A (getAttr (.ref x) (Str.ofString "OVERFLOW") true) Q E s := by
  obtain ⟨t, e1, e2⟩ := kf.c_OVERFLOW
  exact r_cls kf cx ok e1 e2 rfl (by kernel_rfl) (fun _ _ => by kernel_rfl) (h t)
theorem g_DECIMAL {Q : Value → Shared → Prop} (kf : KF K) (cx : Cx K n A env h₀ L) (ok : Ok og w x d M rest h₀ L l S s.heap (s.os, s.drawn) s.gens) (h : ∀ t s', Ok og w x d M rest h₀ L l S s'.heap (s'.os, s'.drawn) s'.gens → Q (.int 8 t) s') :
    wpAny (model prog w) A (getAttr (.ref x) (Str.ofString "DECIMAL") true) Q E s := by
  obtain ⟨t, e1, e2⟩ := kf.c_DECIMAL
  exact r_cls kf cx ok e1 e2 rfl (by kernel_rfl) (fun _ _ => by kernel_rfl) (h t)
theorem g_ZERO {Q : Value → Shared → Prop} (kf : KF K) (cx : Cx K n A env h₀ L) (ok : Ok og w x d M rest h₀ L l S s.heap (s.os, s.drawn) s.gens) (h : ∀ t s', Ok og w x d M rest h₀ L l S s'.heap (s'.os, s'.drawn) s'.gens → Q (.int 2 t) s') :
    wpAny (model prog w) A (getAttr (.ref x) (Str.ofString "ZERO") true) Q E s := by
  obtain ⟨t, e1, e2⟩ := kf.c_ZERO
  exact r_cls kf cx ok e1 e2 rfl (by kernel_rfl) (fun _ _ => by kernel_rfl) (h t)
theorem g_CARRY {Q : Value → Shared → Prop} (kf : KF K) (cx : Cx K n A env h₀ L) (ok : Ok og w x d M rest h₀ L l S s.heap (s.os, s.drawn) s.gens) (h : ∀ t s', Ok og w x d M rest h₀ L l S s'.heap (s'.os, s'.drawn) s'.gens → Q (.int 1 t) s') :
    wpAny (model prog w) A (getAttr (.ref x) (Str.ofString "CARRY") true) Q E s := by
  obtain ⟨t, e1, e2⟩ := kf.c_CARRY
  exact r_cls kf cx ok e1 e2 rfl (by kernel_rfl) (fun _ _ => by kernel_rfl) (h t)
theorem g_instruct {Q : Value → Shared → Prop} (kf : KF K) (cx : Cx K n A env h₀ L) (ok : Ok og w x d M rest h₀ L l S s.heap (s.os, s.drawn) s.gens) (h : ∀ s', Ok og w x d M rest h₀ L l S s'.heap (s'.os, s'.drawn) s'.gens → Q (.ref 1423) s') :
    wpAny (model prog w) A (getAttr (.ref x) (Str.ofString "instruct") true) Q E s := by
  obtain ⟨e1, e2⟩ := kf.t_instruct
  exact r_cls kf cx ok e1 e2 rfl (by kernel_rfl) (fun _ _ => by kernel_rfl) h
theorem g_cycletime {Q : Value → Shared → Prop} (kf : KF K) (cx : Cx K n A env h₀ L) (ok : Ok og w x d M rest h₀ L l S s.heap (s.os, s.drawn) s.gens) (h : ∀ s', Ok og w x d M rest h₀ L l S s'.heap (s'.os, s'.drawn) s'.gens → Q (.ref 1424) s') :
    wpAny (model prog w) A (getAttr (.ref x) (Str.ofString "cycletime") true) Q E s := by
  obtain ⟨e1, e2⟩ := kf.t_cycletime
  exact r_cls kf cx ok e1 e2 rfl (by kernel_rfl) (fun _ _ => by kernel_rfl) h
theorem g_extracycles {Q : Value → Shared → Prop} (kf : KF K) (cx : Cx K n A env h₀ L) (ok : Ok og w x d M rest h₀ L l S s.heap (s.os, s.drawn) s.gens) (h : ∀ s', Ok og w x d M rest h₀ L l S s'.heap (s'.os, s'.drawn) s'.gens → Q (.ref 1425) s') :
    wpAny (model prog w) A (getAttr (.ref x) (Str.ofString "extracycles") true) Q E s := by
  obtain ⟨e1, e2⟩ := kf.t_extracycles
  exact r_cls kf cx ok e1 e2 rfl (by kernel_rfl) (fun _ _ => by kernel_rfl) h
/-- the memory, read and written -/
theorem r_sub {value slice : PySem.Expr} {k : Int} {u : Tok} {Q : Value → Shared → Prop} (ok : Ok og w x d M rest h₀ L l S s.heap (s.os, s.drawn) s.gens) (h0 : 0 ≤ k) (h1 : k < S.mem.length) (hfit : k < 2 ^ 63) (h : ∀ t, Q (.int (S.mem.getD k.toNat 0) t) s)
    (hs : subscripted slice false (.ref M) (.int k u) = operate [.ref M, .int k u] (getItem (.ref M) (.int k u)) := by with_unfolding_all rfl) :
    wpAny (model prog w) A (subscriptTail value slice (.ref M) (.int k u)) Q E s := by
  obtain ⟨F, k', v, dn, c, vs, N, hv, hi, ho9⟩ := ok
  exact ksa_sub N (.tail _ (.tail _ (.head _))) hi h0 h1 hfit h hs
theorem r_setItem {k i : Int} {t u : Tok} {Q : Unit → Shared → Prop} (ap : Ap x d M rest) (ok : Ok og w x d M rest h₀ L l S s.heap (s.os, s.drawn) s.gens) (h0 : 0 ≤ k) (h1 : k < S.mem.length) (hfit : k < 2 ^ 63) (h : ∀ s', Ok og w x d M rest h₀ L l { S with mem := S.mem.set k.toNat i } s'.heap (s'.os, s'.drawn) s'.gens → Q () s') :
    wpAny (model prog w) A (setItem (.ref M) (.int k t) (.int i u)) Q E s := by
  obtain ⟨F, k', v, dn, c, vs, N, hv, hi, ho9⟩ := ok
  refine ksa_set F N (.tail ap.xM (.tail (Ne.symm ap.Md) (.head ap.rM))) hi h0 h1 hfit fun h' F' N' hi' _ _ => h _ ⟨F', k', v, dn, c, _, N', { hv with }, hi', ho9⟩
/-- an item of a class's table -/
theorem r_tab {value slice : PySem.Expr} {a : Addr} {lv : List Value} {m : Nat} {v : Value} {dd : Option Addr} {sl : Array (Option Value)} {k : Int} {u : Tok} {Q : Value → Shared → Prop} (cx : Cx K n A env h₀ L) (ok : Ok og w x d M rest h₀ L l S s.heap (s.os, s.drawn) s.gens) (hl : K.lookup a = some ⟨.type "list", dd, .seq lv.toArray m, sl⟩)
    (h0 : 0 ≤ k) (hhi : k < 2 ^ 63) (hx : lv[k.toNat]? = some v) (h : Q v s)
    (hs : subscripted slice false (.ref a) (.int k u) = operate [.ref a, .int k u] (getItem (.ref a) (.int k u)) := by with_unfolding_all rfl) :
    wpAny (model prog w) A (subscriptTail value slice (.ref a) (.int k u)) Q E s := topList_K ok.F cx.X hl h0 hhi hx h hs
/-- a method of the machine, called -/
theorem r_mcall {i : Nat} {g : Addr} {e : PySem.Expr} {es : List PySem.Expr} {sn : Str} {p1 apos pos : Pos} {Q : Value → Shared → Prop} (kf : KF K) (mt : Meth K i nm g) (cx : Cx K n A (envOf q sc L f cd) h₀ L) (ok : Ok og w x d M rest h₀ L l S s.heap (s.os, s.drawn) s.gens)
    (hl : ∀ k v, getL nm (ents w k v) = some none) (hx : At l sn (.ref x))
    (h : wpAny (model prog w) A (spliced (backTo pos (starEach (e :: es) (envOf q sc L f cd)))) (fun vs s₁ => K.In s₁.heap ∧ wpAny (model prog w) A (call (.ref g) ([.ref x] ++ vs)) Q E s₁) E s)
    (hk : sc.kind = .function := by kernel_rfl) (hll : (envOf q sc L f cd).kindOf sn = some .local := by kernel_rfl)
    (hd : (sn == ("__debug__" : Str)) = false := by kernel_rfl)
    (he : starEach (e :: es) (envOf q sc L f cd) = (false, eval e (envOf q sc L f cd)) :: starEach es (envOf q sc L f cd) := by kernel_rfl) (hplain : (backTo pos (starEach es (envOf q sc L f cd))).any (·.1) = false := by kernel_rfl)
    (hm : eval (.Call (.Attribute (.Name sn p1) nm apos) (e :: es) [] pos) (envOf q sc L f cd) = (do
      let ov ← eval (.Name sn p1) (envOf q sc L f cd)
      standAt apos.atName
      let (f', first) ← holding [ov] (getMethod ov nm (plOf sn p1 (envOf q sc L f cd)))
      callWith pos f' first (backTo pos (starEach (e :: es) (envOf q sc L f cd))) (backToKw pos (keywordEach [] (envOf q sc L f cd)))) := by kernel_rfl) :
    wpAny (model prog w) A (eval (.Call (.Attribute (.Name sn p1) nm apos) (e :: es) [] pos) (envOf q sc L f cd)) Q E s :=
  methodCall_KW (pl := plOf sn p1 (envOf q sc L f cd)) (r_loc ok hx (r_meth kf mt cx ok hl (callWith_K cx.X mt.keep h he hplain)) hk hll hd) hm
theorem r_mcall0 {i : Nat} {g : Addr} {sn : Str} {p1 apos pos : Pos} {Q : Value → Shared → Prop} (kf : KF K) (mt : Meth K i nm g) (cx : Cx K n A (envOf q sc L f cd) h₀ L) (ok : Ok og w x d M rest h₀ L l S s.heap (s.os, s.drawn) s.gens)
    (hl : ∀ k v, getL nm (ents w k v) = some none) (hx : At l sn (.ref x)) (h : wpAny (model prog w) A (call (.ref g) ([.ref x] ++ [])) Q E s)
    (hk : sc.kind = .function := by kernel_rfl) (hll : (envOf q sc L f cd).kindOf sn = some .local := by kernel_rfl)
    (hd : (sn == ("__debug__" : Str)) = false := by kernel_rfl)
    (hm : eval (.Call (.Attribute (.Name sn p1) nm apos) [] [] pos) (envOf q sc L f cd) = (do
      let ov ← eval (.Name sn p1) (envOf q sc L f cd)
      standAt apos.atName
      let (f', first) ← holding [ov] (getMethod ov nm (plOf sn p1 (envOf q sc L f cd)))
      callWith pos f' first (backTo pos (starEach [] (envOf q sc L f cd))) (backToKw pos (keywordEach [] (envOf q sc L f cd)))) := by kernel_rfl) :
    wpAny (model prog w) A (eval (.Call (.Attribute (.Name sn p1) nm apos) [] [] pos) (envOf q sc L f cd)) Q E s :=
  methodCall_KW (pl := plOf sn p1 (envOf q sc L f cd)) (r_loc ok hx (r_meth kf mt cx ok hl (callWith_K0 (cx.kin ok.F) mt.keep h)) hk hll hd) hm
/-- a bound method under a name, called -/
theorem r_vcall0 {i : Nat} {g b : Addr} {mn vn : Str} {p1 pos : Pos} {Q : Value → Shared → Prop} (mt : Meth K i mn g) (cx : Cx K n A (envOf q sc L f cd) h₀ L) (ok : Ok og w x d M rest h₀ L l S s.heap (s.os, s.drawn) s.gens) (hx : At l vn (.ref b)) (hb : (b, methodObj (.ref g) (.ref x)) ∈ rest)
    (h : codeAny (model prog w) A (.call (.ref g) ⟨[.ref x], []⟩) (fun r s' => match r with | .ok (.ret v) => Q v s' | .ok _ => False | .error e => E e s') s)
    (hk : sc.kind = .function := by kernel_rfl) (hll : (envOf q sc L f cd).kindOf vn = some .local := by kernel_rfl)
    (hd : (vn == ("__debug__" : Str)) = false := by kernel_rfl) :
    wpAny (model prog w) A (eval (.Call (.Name vn p1) [] [] pos) (envOf q sc L f cd)) Q E s := by
  have hb' : s.heap.get? b = some (methodObj (.ref g) (.ref x)) := by
    obtain ⟨F, k', v, dn, c, vs, N, hv, hi, ho9⟩ := ok
    exact (N _ (.tail _ (.tail _ (.tail _ hb)))).1
  refine Call_ (r_loc ok hx (callWith_M0 ⟨hb', cx.kin ok.F⟩ mt.fni ?_) hk hll hd)
  exact wpAny_call (method_call hb' h)
theorem ite_tt {P R : Prop} (h : P) : if (true : Bool) = true then P else R := by simpa using h
theorem ite_ff {P R : Prop} (h : R) : if (false : Bool) = true then P else R := by simpa using h
end
end
section
open Builtin (bitAnd bitOr bitXor bitNot)
section
section
variable {og o9 : OsState × Drawn} {g9 : Array GenState} {K : Frag} {n : Nat} {A : Around} {env : Env} {h₀ : Heap} {L x d M f : Addr} {rest : List (Addr × Obj)} {l : List (Str × Value)} {S S' : MS} {s : Shared} {w : World} {prog : Program} {E : Value → Shared → Prop}
  {q : Str} {sc : Scope} {cd : Value} {nm : Str} {pos : Pos} {a b : Int} {t u : Tok} {Q : Value → Shared → Prop}
theorem b_add (ok : Ok og w x d M rest h₀ L l S s.heap (s.os, s.drawn) s.gens) (h : ∀ t s', Ok og w x d M rest h₀ L l S s'.heap (s'.os, s'.drawn) s'.gens → Q (.int (a + b) t) s') : wpAny (model prog w) A (binaryOp .Add (.int a t) (.int b u)) Q E s := PyProof.Rows.add_int (h _ _ ok)
theorem b_sub (ok : Ok og w x d M rest h₀ L l S s.heap (s.os, s.drawn) s.gens) (h : ∀ t s', Ok og w x d M rest h₀ L l S s'.heap (s'.os, s'.drawn) s'.gens → Q (.int (a - b) t) s') : wpAny (model prog w) A (binaryOp .Sub (.int a t) (.int b u)) Q E s := PyProof.Rows.sub_int (h _ _ ok)
theorem b_and (ok : Ok og w x d M rest h₀ L l S s.heap (s.os, s.drawn) s.gens) (h : ∀ t s', Ok og w x d M rest h₀ L l S s'.heap (s'.os, s'.drawn) s'.gens → Q (.int (bitAnd a b) t) s') : wpAny (model prog w) A (binaryOp .BitAnd (.int a t) (.int b u)) Q E s := and_int (h _ _ ok)
theorem b_or (ok : Ok og w x d M rest h₀ L l S s.heap (s.os, s.drawn) s.gens) (h : ∀ t s', Ok og w x d M rest h₀ L l S s'.heap (s'.os, s'.drawn) s'.gens → Q (.int (bitOr a b) t) s') : wpAny (model prog w) A (binaryOp .BitOr (.int a t) (.int b u)) Q E s := or_int (h _ _ ok)
theorem b_xor (ok : Ok og w x d M rest h₀ L l S s.heap (s.os, s.drawn) s.gens) (h : ∀ t s', Ok og w x d M rest h₀ L l S s'.heap (s'.os, s'.drawn) s'.gens → Q (.int (bitXor a b) t) s') : wpAny (model prog w) A (binaryOp .BitXor (.int a t) (.int b u)) Q E s := xor_int (h _ _ ok)
theorem b_shl (ok : Ok og w x d M rest h₀ L l S s.heap (s.os, s.drawn) s.gens) (ha : 0 ≤ a ∧ a < 2 ^ 63) (h : ∀ t s', Ok og w x d M rest h₀ L l S s'.heap (s'.os, s'.drawn) s'.gens → Q (.int (a * 2) t) s') : wpAny (model prog w) A (binaryOp .LShift (.int a t) (.int 1 u)) Q E s :=
  lshift_int_small (by omega) (by omega) (by omega) (by have := h s.toks { s with toks := s.toks + 1 } ok; simpa using this)
theorem b_shr (ok : Ok og w x d M rest h₀ L l S s.heap (s.os, s.drawn) s.gens) (h : ∀ t s', Ok og w x d M rest h₀ L l S s'.heap (s'.os, s'.drawn) s'.gens → Q (.int (a.fdiv 2) t) s') : wpAny (model prog w) A (binaryOp .RShift (.int a t) (.int 1 u)) Q E s :=
  rshift_int (by omega) (by have := h s.toks { s with toks := s.toks + 1 } ok; simpa using this)
theorem i_add (ok : Ok og w x d M rest h₀ L l S s.heap (s.os, s.drawn) s.gens) (h : ∀ t s', Ok og w x d M rest h₀ L l S s'.heap (s'.os, s'.drawn) s'.gens → Q (.int (a + b) t) s') : wpAny (model prog w) A (inplaceOp .Add (.int a t) (.int b u)) Q E s := iadd_int (h _ _ ok)
theorem i_sub (ok : Ok og w x d M rest h₀ L l S s.heap (s.os, s.drawn) s.gens) (h : ∀ t s', Ok og w x d M rest h₀ L l S s'.heap (s'.os, s'.drawn) s'.gens → Q (.int (a - b) t) s') : wpAny (model prog w) A (inplaceOp .Sub (.int a t) (.int b u)) Q E s := isub_int (h _ _ ok)
theorem i_and (ok : Ok og w x d M rest h₀ L l S s.heap (s.os, s.drawn) s.gens) (h : ∀ t s', Ok og w x d M rest h₀ L l S s'.heap (s'.os, s'.drawn) s'.gens → Q (.int (bitAnd a b) t) s') : wpAny (model prog w) A (inplaceOp .BitAnd (.int a t) (.int b u)) Q E s := iand_int (h _ _ ok)
theorem i_or (ok : Ok og w x d M rest h₀ L l S s.heap (s.os, s.drawn) s.gens) (h : ∀ t s', Ok og w x d M rest h₀ L l S s'.heap (s'.os, s'.drawn) s'.gens → Q (.int (bitOr a b) t) s') : wpAny (model prog w) A (inplaceOp .BitOr (.int a t) (.int b u)) Q E s := ior_int (h _ _ ok)
theorem u_inv (ok : Ok og w x d M rest h₀ L l S s.heap (s.os, s.drawn) s.gens) (h : ∀ t s', Ok og w x d M rest h₀ L l S s'.heap (s'.os, s'.drawn) s'.gens → Q (.int (bitNot a) t) s') : wpAny (model prog w) A (unaryOp .Invert (.int a t)) Q E s := invert_int (h _ _ ok)
theorem k_int {i : Int} {k : Nat} (ok : Ok og w x d M rest h₀ L l S s.heap (s.os, s.drawn) s.gens) (h : ∀ t s', Ok og w x d M rest h₀ L l S s'.heap (s'.os, s'.drawn) s'.gens → Q (.int i t) s') : wpAny (model prog w) A (eval (.Constant (.int i) k pos) env) Q E s := wpAny_Constant_int (h _ _ ok)
theorem ite_of_f {c : Bool} {P R : Prop} (hc : c = false) (h : R) : if c = true then P else R := by rw [hc]; simpa using h
theorem ite_of_t {c : Bool} {P R : Prop} (hc : c = true) (h : P) : if c = true then P else R := by rw [hc]; simpa using h
theorem is_nn {Q : Value → Shared → Prop} (h : Q (.bool true) s) : wpAny (model prog w) A (compareOp .Is .none .none) Q E s := wpAny_is_self rfl h
theorem is_rn {Q : Value → Shared → Prop} (h : Q (.bool false) s) : wpAny (model prog w) A (compareOp .Is (.ref f) .none) Q E s := wpAny_is_other rfl (by intro e; cases e) h
end
end
section
local macro_rules | `(tactic| walk_at "at") => `(tactic| first | with_reducible exact At.here | ((with_reducible refine' At.there ?ate ?atr); (case ate => kernel_rfl); (case atr => walk_at "at")))
local macro_rules | `(tactic| walk_at "asm") => `(tactic| with_reducible assumption)
local macro_rules | `(tactic| walk_at "get") => `(tactic| first
  | (with_reducible refine g_pc (by walk_at "asm") (by walk_at "asm") (by walk_at "asm") ?_; intro _ _ _)
  | (with_reducible refine g_p (by walk_at "asm") (by walk_at "asm") (by walk_at "asm") ?_; intro _ _ _)
  | (with_reducible refine g_a (by walk_at "asm") (by walk_at "asm") (by walk_at "asm") ?_; intro _ _ _)
  | (with_reducible refine g_x (by walk_at "asm") (by walk_at "asm") (by walk_at "asm") ?_; intro _ _ _)
  | (with_reducible refine g_y (by walk_at "asm") (by walk_at "asm") (by walk_at "asm") ?_; intro _ _ _)
  | (with_reducible refine g_sp (by walk_at "asm") (by walk_at "asm") (by walk_at "asm") ?_; intro _ _ _)
  | (with_reducible refine g_excycles (by walk_at "asm") (by walk_at "asm") (by walk_at "asm") ?_; intro _ _ _)
  | (with_reducible refine g_byteMask (by walk_at "asm") (by walk_at "asm") (by walk_at "asm") ?_; intro _ _ _)
  | (with_reducible refine g_addrMask (by walk_at "asm") (by walk_at "asm") (by walk_at "asm") ?_; intro _ _ _)
  | (with_reducible refine g_spBase (by walk_at "asm") (by walk_at "asm") (by walk_at "asm") ?_; intro _ _ _)
  | (with_reducible refine g_memory (by walk_at "asm") (by walk_at "asm") (by walk_at "asm") ?_; intro _ _)
  | (with_reducible refine g_NEGATIVE (by walk_at "asm") (by walk_at "asm") (by walk_at "asm") ?_; intro _ _ _)
  | (with_reducible refine g_OVERFLOW (by walk_at "asm") (by walk_at "asm") (by walk_at "asm") ?_; intro _ _ _)
  | (with_reducible refine g_DECIMAL (by walk_at "asm") (by walk_at "asm") (by walk_at "asm") ?_; intro _ _ _)
  | (with_reducible refine g_ZERO (by walk_at "asm") (by walk_at "asm") (by walk_at "asm") ?_; intro _ _ _)
  | (with_reducible refine g_CARRY (by walk_at "asm") (by walk_at "asm") (by walk_at "asm") ?_; intro _ _ _)
  | (with_reducible refine g_processorCycles (by walk_at "asm") (by walk_at "asm") (by walk_at "asm") ?_; intro _ _ _ _)
  | (with_reducible refine g_instruct (by walk_at "asm") (by walk_at "asm") (by walk_at "asm") ?_; intro _ _)
  | (with_reducible refine g_cycletime (by walk_at "asm") (by walk_at "asm") (by walk_at "asm") ?_; intro _ _)
  | (with_reducible refine g_extracycles (by walk_at "asm") (by walk_at "asm") (by walk_at "asm") ?_; intro _ _))
local macro_rules | `(tactic| walk_at "set") => `(tactic| first
  | (with_reducible refine s_p (by walk_at "asm") (by walk_at "asm") (by walk_at "asm") (by walk_at "asm") ?_; intro _ _)
  | (with_reducible refine s_pc (by walk_at "asm") (by walk_at "asm") (by walk_at "asm") (by walk_at "asm") ?_; intro _ _)
  | (with_reducible refine s_a (by walk_at "asm") (by walk_at "asm") (by walk_at "asm") (by walk_at "asm") ?_; intro _ _)
  | (with_reducible refine s_x (by walk_at "asm") (by walk_at "asm") (by walk_at "asm") (by walk_at "asm") ?_; intro _ _)
  | (with_reducible refine s_y (by walk_at "asm") (by walk_at "asm") (by walk_at "asm") (by walk_at "asm") ?_; intro _ _)
  | (with_reducible refine s_sp (by walk_at "asm") (by walk_at "asm") (by walk_at "asm") (by walk_at "asm") ?_; intro _ _)
  | (with_reducible refine s_excycles (by walk_at "asm") (by walk_at "asm") (by walk_at "asm") (by walk_at "asm") ?_; intro _ _)
  | (with_reducible refine s_processorCycles (by walk_at "asm") (by walk_at "asm") (by walk_at "asm") (by walk_at "asm") ?_; intro _ _)
  | (with_reducible refine s_addcycles (by walk_at "asm") (by walk_at "asm") (by walk_at "asm") (by walk_at "asm") ?_; intro _ _))
local macro_rules | `(tactic| walk_at "op") => `(tactic| first
  | (with_reducible refine b_and (by walk_at "asm") ?_; intro _ _ _)
  | (with_reducible refine b_or (by walk_at "asm") ?_; intro _ _ _)
  | (with_reducible refine b_xor (by walk_at "asm") ?_; intro _ _ _)
  | (with_reducible refine b_add (by walk_at "asm") ?_; intro _ _ _)
  | (with_reducible refine b_sub (by walk_at "asm") ?_; intro _ _ _)
  | (with_reducible refine b_shr (by walk_at "asm") ?_; intro _ _ _)
  | (with_reducible refine i_and (by walk_at "asm") ?_; intro _ _ _)
  | (with_reducible refine i_or (by walk_at "asm") ?_; intro _ _ _)
  | (with_reducible refine i_add (by walk_at "asm") ?_; intro _ _ _)
  | (with_reducible refine i_sub (by walk_at "asm") ?_; intro _ _ _)
  | (with_reducible refine u_inv (by walk_at "asm") ?_; intro _ _ _)
  | (with_reducible refine PyProof.Rows.eq_int ?_)
  | (with_reducible refine PyProof.Rows.gt_int ?_)
  | (with_reducible refine is_nn ?_)
  | (with_reducible refine is_rn ?_)
  | (with_reducible refine wpAny_truthy_bool ?_)
  | (with_reducible refine PyProof.Rows.truthy_int ?_))
local macro_rules | `(tactic| walk_at "mw") => `(tactic| first
  | (with_reducible refine wpAny_execs_cons ?_)
  | (with_reducible refine wpAny_BinOp ?_)
  | (with_reducible refine Attribute_Name_ ?_ (by kernel_rfl))
  | ((with_reducible refine' r_loc ?okk ?att ?_); (case okk => walk_at "asm"); (case att => walk_at "at"))
  | (with_reducible refine k_int (by walk_at "asm") ?_; intro _ _ _)
  | ((with_reducible show wpAny _ _ (getAttr _ _ _) _ _ _); walk_at "get")
  | ((with_reducible show wpAny _ _ (setAttr _ _ _) _ _ _); walk_at "set")
  | walk_at "op"
  | (with_reducible refine ite_tt ?_)
  | (with_reducible refine ite_ff ?_)
  | (with_reducible refine ite_of_f (by walk_at "asm") ?_)
  | (with_reducible refine ite_of_t (by walk_at "asm") ?_)
  | (with_reducible refine split_bool ?_ ?_ <;> intro _)
  | (with_reducible refine wpAny_AugAssign_AttributeAny ?_)
  | (with_reducible refine plainObj_wpAny_Assign_Attribute ?_ (by kernel_rfl))
  | (with_reducible refine wpAny_Assign_Name ?_ (by kernel_rfl))
  | (with_reducible refine r_sto (by walk_at "asm") ?_; intro _ _)
  | (with_reducible refine wpAny_If ?_)
  | (with_reducible refine wpAny_isTrue_Compare1 ?_ (by kernel_rfl))
  | (with_reducible refine isTrue_plain ?_ (by kernel_rfl))
  | (with_reducible refine UnaryOp_ ?_)
  | (with_reducible refine Subscript_ ?_)
  | (with_reducible refine wpAny_Return_some ?_)
  | (with_reducible refine wpAny_Pass ?_)
  | (with_reducible refine wpAny_execs_nil ?_))
local macro_rules | `(tactic| walk_at "om") => `(tactic| ((try dsimp only); omega))
local macro_rules | `(tactic| walk_at "fin") => `(tactic| (refine ⟨_, _, by walk_at "asm", ?_⟩))
local macro_rules | `(tactic| walk_at "mm") => `(tactic| first
  | walk_at "mw"
  | ((with_reducible refine' r_sub ?okk ?h0 ?h1 ?h2 ?_ ?hs); (case okk => walk_at "asm"); (case h0 => walk_at "om"); (case h1 => walk_at "om"); (case h2 => walk_at "om"); (case hs => kernel_rfl); intro _)
  | ((with_reducible refine' r_setItem ?ap ?okk ?h0 ?h1 ?h2 ?_); (case ap => walk_at "asm"); (case okk => walk_at "asm"); (case h0 => walk_at "om"); (case h1 => walk_at "om"); (case h2 => walk_at "om"); intro _ _)
  | (with_reducible refine wpAny_Assign_Subscript ?_ (by kernel_rfl))
  | (with_reducible refine wpAny_Expr_any ?_ (by kernel_rfl) (by kernel_rfl))
  | (with_reducible refine spliced_more ?_ (by kernel_rfl))
  | (with_reducible refine spliced_none ?_)
  | (with_reducible refine wpAny_AugAssign_Name ?_)
  | ((with_reducible refine' r_ldn ?okk ?att ?_); (case okk => walk_at "asm"); (case att => walk_at "at"))
  | (with_reducible refine Constant_none ?_)
  | ((with_reducible show Frag.In _ _ ∧ _); (refine ⟨Cx.kin (by walk_at "asm") (Ok.F (by walk_at "asm")), ?_⟩); (dsimp only [List.cons_append, List.nil_append]); refine wpAny_call ?_)
  | ((with_reducible show wpAny _ _ (call _ ([_] ++ [])) _ _ _); (dsimp only [List.cons_append, List.nil_append]); refine wpAny_call ?_)
  | ((with_reducible refine' b_shl ?okk ?ha ?_); (case okk => walk_at "asm"); (case ha => walk_at "om"); intro _ _ _))
section
variable {og o9 : OsState × Drawn} {g9 : Array GenState} {K : Frag} {n : Nat} {A : Around} {env : Env} {h₀ : Heap} {L x d M f b g : Addr} {rest : List (Addr × Obj)} {l : List (Str × Value)} {S S' : MS} {s : Shared} {w : World} {prog : Program} {E : Value → Shared → Prop}
  {Q : Value → Shared → Prop} {k : Int} {t0 : Tok} {mi : Nat} {mn : Str}
def nzF (p v : Int) : Int := if v = 0 then bitOr (bitAnd p (bitNot (bitOr 2 128))) 2 else bitOr (bitAnd p (bitNot (bitOr 2 128))) (bitAnd v 128)
abbrev Rt (Q : Value → Shared → Prop) (E : Value → Shared → Prop) : Result → Shared → Prop := fun r s' => match r with | .ok (.ret v) => Q v s' | .ok _ => False | .error e => E e s'
theorem c_FlagsNZ (kf : KF K) (cx : Cx K n A env h₀ L) (hn : n < 90) (ap : Ap x d M rest) (ok : Ok og w x d M rest h₀ L l S s.heap (s.os, s.drawn) s.gens) (hq : ∀ s', Ok og w x d M rest h₀ L l { S with p := nzF S.p k } s'.heap (s'.os, s'.drawn) s'.gens → Q .none s') :
    codeAny (model prog w) A (.call (.ref 197) ⟨[.ref x, .int k t0], []⟩) (Rt Q E) s := by
  refine call_fn [(Str.ofString "value", .int k t0), (Str.ofString "self", .ref x)] (fun v S' => v = .none ∧ S' = { S with p := nzF S.p k }) kf.m_FlagsNZ cx (by omega) ok (fun _ _ _ _ _ _ _ => by kernel_rfl) (by kernel_rfl) (by kernel_rfl) (by kernel_rfl) (fun q cd g L' A' s1 cx1 ok1 => ?_) (fun v S' s2 hr ok2 => ?_)
  · refine wpAny_execs_cons ?_
    repeat' (walk_at "mm")
    all_goals (walk_at "fin"; exact ⟨rfl, by simp_all [nzF]⟩)
  · obtain ⟨rfl, rfl⟩ := hr
    exact hq s2 ok2
theorem c_ByteAt (kf : KF K) (cx : Cx K n A env h₀ L) (hn : n < 90) (ok : Ok og w x d M rest h₀ L l S s.heap (s.os, s.drawn) s.gens) (hlen : S.mem.length = 768) (h0 : 0 ≤ k) (h1 : k < 768) (hq : ∀ t s', Ok og w x d M rest h₀ L l S s'.heap (s'.os, s'.drawn) s'.gens → Q (.int (S.mem.getD k.toNat 0) t) s') :
    codeAny (model prog w) A (.call (.ref 71) ⟨[.ref x, .int k t0], []⟩) (Rt Q E) s := by
  refine call_fn [(Str.ofString "addr", .int k t0), (Str.ofString "self", .ref x)] (fun v S' => S' = S ∧ IsI v (S.mem.getD k.toNat 0)) kf.m_ByteAt cx (by omega) ok (fun _ _ _ _ _ _ _ => by kernel_rfl) (by kernel_rfl) (by kernel_rfl) (by kernel_rfl) (fun q cd g L' A' s1 cx1 ok1 => ?_) (fun v S' s2 hr ok2 => ?_)
  · refine wpAny_execs_cons ?_
    repeat' (walk_at "mm")
    all_goals (walk_at "fin"; exact ⟨rfl, _, rfl⟩)
  · obtain ⟨rfl, t, rfl⟩ := hr
    exact hq t s2 ok2
def Gives (K : Frag) (w : World) (prog : Program) (x d M : Addr) (g : Addr) (k : Int) (S : MS) : Prop :=
  ∀ (og : OsState × Drawn) (n : Nat) (A : Around) (env : Env) (h₀ : Heap) (L : Addr) (rest : List (Addr × Obj)) (l : List (Str × Value)) (s : Shared) (E : Value → Shared → Prop) (Q : Value → Shared → Prop), Cx K n A env h₀ L → n < 85 → Ok og w x d M rest h₀ L l S s.heap (s.os, s.drawn) s.gens →
    (∀ t s', Ok og w x d M rest h₀ L l S s'.heap (s'.os, s'.drawn) s'.gens → Q (.int k t) s') → codeAny (model prog w) A (.call (.ref g) ⟨[.ref x], []⟩) (Rt Q E) s
theorem c_PC (kf : KF K) : Gives K w prog x d M 92 S.pc S := by
  intro og n A env h₀ L rest l s E Q cx hn ok hq
  refine call_fn [(Str.ofString "self", .ref x)] (fun v S' => S' = S ∧ IsI v S.pc) kf.m_ProgramCounter cx (by omega) ok (fun _ _ _ _ _ _ _ => by kernel_rfl) (by kernel_rfl) (by kernel_rfl) (by kernel_rfl) (fun q cd g L' A' s1 cx1 ok1 => ?_) (fun v S' s2 hr ok2 => ?_)
  · refine wpAny_execs_cons ?_
    repeat' (walk_at "mm")
    all_goals (walk_at "fin"; exact ⟨rfl, _, rfl⟩)
  · obtain ⟨rfl, t, rfl⟩ := hr
    exact hq t s2 ok2
theorem c_ZP (kf : KF K) (hlen : S.mem.length = 768) (h0 : 0 ≤ S.pc) (h1 : S.pc < 768) : Gives K w prog x d M 106 (S.mem.getD S.pc.toNat 0) S := by
  intro og n A env h₀ L rest l s E Q cx hn ok hq
  refine call_fn [(Str.ofString "self", .ref x)] (fun v S' => S' = S ∧ IsI v (S.mem.getD S.pc.toNat 0)) kf.m_ZeroPageAddr cx (by omega) ok (fun _ _ _ _ _ _ _ => by kernel_rfl) (by kernel_rfl) (by kernel_rfl) (by kernel_rfl) (fun q cd g L' A' s1 cx1 ok1 => ?_) (fun v S' s2 hr ok2 => ?_)
  · refine wpAny_execs_cons ?_
    walk_at "mm"
    with_reducible refine' r_mcall kf kf.m_ByteAt cx1 ok1 (fun _ _ => by kernel_rfl) ?hx ?_
    (case hx => walk_at "at")
    repeat' (walk_at "mm")
    refine c_ByteAt kf cx1 (by omega) (by walk_at "asm") hlen h0 h1 ?_
    intro t s2 ok2
    walk_at "fin"
    exact ⟨rfl, _, rfl⟩
  · obtain ⟨rfl, t, rfl⟩ := hr
    exact hq t s2 ok2
end
local macro_rules | `(tactic| walk_at "mc") => `(tactic| first
  | walk_at "mm"
  | ((with_reducible refine' r_mcall ?kf (KFp.m_ByteAt ?kg) ?cx ?okk ?hl ?hx ?_); (case kf => walk_at "asm"); (case kg => walk_at "asm"); (case cx => walk_at "asm"); (case okk => walk_at "asm"); (case hl => (intro _ _; kernel_rfl)); (case hx => walk_at "at"))
  | ((with_reducible refine' r_mcall ?kf (KFp.m_FlagsNZ ?kg) ?cx ?okk ?hl ?hx ?_); (case kf => walk_at "asm"); (case kg => walk_at "asm"); (case cx => walk_at "asm"); (case okk => walk_at "asm"); (case hl => (intro _ _; kernel_rfl)); (case hx => walk_at "at"))
  | ((with_reducible show codeAny _ _ (Code.call (Value.ref 197) _) _ _); (refine' c_FlagsNZ ?kf ?cx ?hn ?ap ?okk ?_); (case kf => walk_at "asm"); (case cx => walk_at "asm"); (case hn => omega); (case ap => walk_at "asm"); (case okk => walk_at "asm"); intro _ _)
  | ((with_reducible show codeAny _ _ (Code.call (Value.ref 71) _) _ _); (refine' c_ByteAt ?kf ?cx ?hn ?okk ?hl ?h0 ?h1 ?_); (case kf => walk_at "asm"); (case cx => walk_at "asm"); (case hn => omega); (case okk => walk_at "asm"); (case hl => walk_at "om"); (case h0 => walk_at "om"); (case h1 => walk_at "om"); intro _ _ _)
  | ((with_reducible refine' r_vcall0 ?mt ?cx ?okk ?hx ?hb ?_); (case mt => walk_at "asm"); (case cx => walk_at "asm"); (case okk => walk_at "asm"); (case hx => walk_at "at"); (case hb => walk_at "asm"); (rename Gives _ _ _ _ _ _ _ _ _ => gv9); (refine gv9 _ _ _ _ _ _ _ _ _ _ _ (by walk_at "asm") (by omega) (by walk_at "asm") ?_); intro _ _ _))
local macro_rules | `(tactic| walk_at "clr") => `(tactic| repeat (rename Ok _ _ _ _ _ _ _ _ _ _ _ _ _ => okc9; clear okc9))
section
variable {og o9 : OsState × Drawn} {g9 : Array GenState} {K : Frag} {n : Nat} {A : Around} {env : Env} {h₀ : Heap} {L x d M f b g : Addr} {rest : List (Addr × Obj)} {l : List (Str × Value)} {S S' : MS} {s : Shared} {w : World} {prog : Program} {E : Value → Shared → Prop}
  {Q : Value → Shared → Prop} {k : Int} {t0 : Tok} {mi : Nat} {mn : Str}
theorem c_opLDA (kf : KF K) (cx : Cx K n A env h₀ L) (hn : n < 80) (ap : Ap x d M rest) (ok : Ok og w x d M rest h₀ L l S s.heap (s.os, s.drawn) s.gens) (hlen : S.mem.length = 768) (mt : Meth K mi mn g) (hb : (b, methodObj (.ref g) (.ref x)) ∈ rest) (gv : Gives K w prog x d M g k S) (k0 : 0 ≤ k) (k1 : k < 768) (hq : ∀ s', Ok og w x d M rest h₀ L l { S with a := S.mem.getD k.toNat 0, p := nzF S.p (S.mem.getD k.toNat 0) } s'.heap (s'.os, s'.drawn) s'.gens → Q .none s') :
    codeAny (model prog w) A (.call (.ref 344) ⟨[.ref x, .ref b], []⟩) (Rt Q E) s := by
  refine call_fn [(Str.ofString "x", .ref b), (Str.ofString "self", .ref x)] (fun v S' => v = .none ∧ S' = { S with a := S.mem.getD k.toNat 0, p := nzF S.p (S.mem.getD k.toNat 0) }) kf.m_opLDA cx (by omega) ok (fun _ _ _ _ _ _ _ => by kernel_rfl) (by kernel_rfl) (by kernel_rfl) (by kernel_rfl) (fun q cd g L' A' s1 cx1 ok1 => ?_) (fun v S' s2 hr ok2 => ?_)
  · refine wpAny_execs_cons ?_
    repeat' (walk_at "mc")
    all_goals (walk_at "fin"; exact ⟨rfl, by rfl⟩)
  · obtain ⟨rfl, rfl⟩ := hr
    exact hq s2 ok2

theorem c_opLDY (kf : KF K) (cx : Cx K n A env h₀ L) (hn : n < 80) (ap : Ap x d M rest) (ok : Ok og w x d M rest h₀ L l S s.heap (s.os, s.drawn) s.gens) (hlen : S.mem.length = 768) (mt : Meth K mi mn g) (hb : (b, methodObj (.ref g) (.ref x)) ∈ rest) (gv : Gives K w prog x d M g k S) (k0 : 0 ≤ k) (k1 : k < 768) (hq : ∀ s', Ok og w x d M rest h₀ L l { S with y := S.mem.getD k.toNat 0, p := nzF S.p (S.mem.getD k.toNat 0) } s'.heap (s'.os, s'.drawn) s'.gens → Q .none s') :
    codeAny (model prog w) A (.call (.ref 351) ⟨[.ref x, .ref b], []⟩) (Rt Q E) s := by
  refine call_fn [(Str.ofString "x", .ref b), (Str.ofString "self", .ref x)] (fun v S' => v = .none ∧ S' = { S with y := S.mem.getD k.toNat 0, p := nzF S.p (S.mem.getD k.toNat 0) }) kf.m_opLDY cx (by omega) ok (fun _ _ _ _ _ _ _ => by kernel_rfl) (by kernel_rfl) (by kernel_rfl) (by kernel_rfl) (fun q cd g L' A' s1 cx1 ok1 => ?_) (fun v S' s2 hr ok2 => ?_)
  · refine wpAny_execs_cons ?_
    repeat' (walk_at "mc")
    all_goals (walk_at "fin"; exact ⟨rfl, by rfl⟩)
  · obtain ⟨rfl, rfl⟩ := hr
    exact hq s2 ok2

theorem c_opLDX (kf : KF K) (cx : Cx K n A env h₀ L) (hn : n < 80) (ap : Ap x d M rest) (ok : Ok og w x d M rest h₀ L l S s.heap (s.os, s.drawn) s.gens) (hlen : S.mem.length = 768) (mt : Meth K mi mn g) (hb : (b, methodObj (.ref g) (.ref x)) ∈ rest) (gv : Gives K w prog x d M g k S) (k0 : 0 ≤ k) (k1 : k < 768) (hq : ∀ s', Ok og w x d M rest h₀ L l { S with x := S.mem.getD k.toNat 0, p := nzF S.p (S.mem.getD k.toNat 0) } s'.heap (s'.os, s'.drawn) s'.gens → Q .none s') :
    codeAny (model prog w) A (.call (.ref 358) ⟨[.ref x, .ref b], []⟩) (Rt Q E) s := by
  refine call_fn [(Str.ofString "y", .ref b), (Str.ofString "self", .ref x)] (fun v S' => v = .none ∧ S' = { S with x := S.mem.getD k.toNat 0, p := nzF S.p (S.mem.getD k.toNat 0) }) kf.m_opLDX cx (by omega) ok (fun _ _ _ _ _ _ _ => by kernel_rfl) (by kernel_rfl) (by kernel_rfl) (by kernel_rfl) (fun q cd g L' A' s1 cx1 ok1 => ?_) (fun v S' s2 hr ok2 => ?_)
  · refine wpAny_execs_cons ?_
    repeat' (walk_at "mc")
    all_goals (walk_at "fin"; exact ⟨rfl, by rfl⟩)
  · obtain ⟨rfl, rfl⟩ := hr
    exact hq s2 ok2

theorem c_opSTA (kf : KF K) (cx : Cx K n A env h₀ L) (hn : n < 80) (ap : Ap x d M rest) (ok : Ok og w x d M rest h₀ L l S s.heap (s.os, s.drawn) s.gens) (hlen : S.mem.length = 768) (mt : Meth K mi mn g) (hb : (b, methodObj (.ref g) (.ref x)) ∈ rest) (gv : Gives K w prog x d M g k S) (k0 : 0 ≤ k) (k1 : k < 768) (hq : ∀ s', Ok og w x d M rest h₀ L l { S with mem := S.mem.set k.toNat S.a } s'.heap (s'.os, s'.drawn) s'.gens → Q .none s') :
    codeAny (model prog w) A (.call (.ref 295) ⟨[.ref x, .ref b], []⟩) (Rt Q E) s := by
  refine call_fn [(Str.ofString "x", .ref b), (Str.ofString "self", .ref x)] (fun v S' => v = .none ∧ S' = { S with mem := S.mem.set k.toNat S.a }) kf.m_opSTA cx (by omega) ok (fun _ _ _ _ _ _ _ => by kernel_rfl) (by kernel_rfl) (by kernel_rfl) (by kernel_rfl) (fun q cd g L' A' s1 cx1 ok1 => ?_) (fun v S' s2 hr ok2 => ?_)
  · refine wpAny_execs_cons ?_
    repeat' (walk_at "mc")
    all_goals (walk_at "fin"; exact ⟨rfl, by rfl⟩)
  · obtain ⟨rfl, rfl⟩ := hr
    exact hq s2 ok2
end
section
variable {og o9 : OsState × Drawn} {g9 : Array GenState} {K : Frag} {n : Nat} {A : Around} {env : Env} {h₀ : Heap} {L x d M f b g : Addr} {rest : List (Addr × Obj)} {l : List (Str × Value)} {S S' : MS} {s : Shared} {w : World} {prog : Program} {E : Value → Shared → Prop}
  {Q : Value → Shared → Prop} {k : Int} {t0 : Tok} {mi : Nat} {mn : Str}
def cmpF (p r t : Int) : Int := bitOr (if r = t then bitOr (bitAnd p (bitNot (bitOr (bitOr 1 2) 128))) (bitOr 1 2) else if r > t then bitOr (bitAnd p (bitNot (bitOr (bitOr 1 2) 128))) 1 else bitAnd p (bitNot (bitOr (bitOr 1 2) 128))) (bitAnd (r - t) 128)
def incF (p t : Int) : Int := if t = 0 then bitOr (bitAnd p (bitNot (bitOr 2 128))) 2 else bitOr (bitAnd p (bitNot (bitOr 2 128))) (bitAnd t 128)
def carF (p a : Int) : Int := if bitAnd a 128 = 0 then bitAnd p (bitNot (bitOr (bitOr 1 128) 2)) else bitOr (bitAnd p (bitNot (bitOr (bitOr 1 128) 2))) 1
def aslF (p a : Int) : Int := if bitAnd (a * 2) 255 = 0 then bitOr (carF p a) 2 else bitOr (carF p a) (bitAnd (bitAnd (a * 2) 255) 128)
def lsrF (p a : Int) : Int := if a.fdiv 2 = 0 then bitOr (bitOr (bitAnd p (bitNot (bitOr (bitOr 1 128) 2))) (bitAnd a 1)) 2 else bitOr (bitAnd p (bitNot (bitOr (bitOr 1 128) 2))) (bitAnd a 1)
def rolC (p a : Int) : Int := if bitAnd p 1 = 0 then (if bitAnd a 128 = 0 then p else bitOr p 1) else (if bitAnd a 128 = 0 then bitAnd p (bitNot 1) else p)
def rolA (p a : Int) : Int := bitAnd (if bitAnd p 1 = 0 then a * 2 else bitOr (a * 2) 1) 255
theorem c_opCMPR (kf : KF K) (cx : Cx K n A env h₀ L) (hn : n < 80) (ap : Ap x d M rest) (ok : Ok og w x d M rest h₀ L l S s.heap (s.os, s.drawn) s.gens) {r : Int} (hlen : S.mem.length = 768) (mt : Meth K mi mn g) (hb : (b, methodObj (.ref g) (.ref x)) ∈ rest) (gv : Gives K w prog x d M g k S) (k0 : 0 ≤ k) (k1 : k < 768) (hq : ∀ s', Ok og w x d M rest h₀ L l { S with p := cmpF S.p r (S.mem.getD k.toNat 0) } s'.heap (s'.os, s'.drawn) s'.gens → Q .none s') :
    codeAny (model prog w) A (.call (.ref 316) ⟨[.ref x, .ref b, .int r t0], []⟩) (Rt Q E) s := by
  refine call_fn [(Str.ofString "register_value", .int r t0), (Str.ofString "get_address", .ref b), (Str.ofString "self", .ref x)] (fun v S' => v = .none ∧ S' = { S with p := cmpF S.p r (S.mem.getD k.toNat 0) }) kf.m_opCMPR cx (by omega) ok (fun _ _ _ _ _ _ _ => by kernel_rfl) (by kernel_rfl) (by kernel_rfl) (by kernel_rfl) (fun q cd g L' A' s1 cx1 ok1 => ?_) (fun v S' s2 hr ok2 => ?_)
  · refine wpAny_execs_cons ?_
    repeat' (walk_at "mc")
    all_goals (walk_at "fin"; refine ⟨rfl, ?_⟩; walk_at "clr"; (simp only [decide_eq_true_eq, decide_eq_false_iff_not, beq_iff_eq, beq_eq_false_iff_ne] at *); unfold cmpF; (repeat' split) <;> first | rfl | (exfalso; omega))
  · obtain ⟨rfl, rfl⟩ := hr
    exact hq s2 ok2

theorem c_opINCR (kf : KF K) (cx : Cx K n A env h₀ L) (hn : n < 80) (ap : Ap x d M rest) (ok : Ok og w x d M rest h₀ L l S s.heap (s.os, s.drawn) s.gens) (hlen : S.mem.length = 768) (mt : Meth K mi mn g) (hb : (b, methodObj (.ref g) (.ref x)) ∈ rest) (gv : Gives K w prog x d M g k S) (k0 : 0 ≤ k) (k1 : k < 768) (hq : ∀ s', Ok og w x d M rest h₀ L l { S with mem := S.mem.set k.toNat (bitAnd (S.mem.getD k.toNat 0 + 1) 255), p := incF S.p (bitAnd (S.mem.getD k.toNat 0 + 1) 255) } s'.heap (s'.os, s'.drawn) s'.gens → Q .none s') :
    codeAny (model prog w) A (.call (.ref 337) ⟨[.ref x, .ref b], []⟩) (Rt Q E) s := by
  refine call_fn [(Str.ofString "x", .ref b), (Str.ofString "self", .ref x)] (fun v S' => v = .none ∧ S' = { S with mem := S.mem.set k.toNat (bitAnd (S.mem.getD k.toNat 0 + 1) 255), p := incF S.p (bitAnd (S.mem.getD k.toNat 0 + 1) 255) }) kf.m_opINCR cx (by omega) ok (fun _ _ _ _ _ _ _ => by kernel_rfl) (by kernel_rfl) (by kernel_rfl) (by kernel_rfl) (fun q cd g L' A' s1 cx1 ok1 => ?_) (fun v S' s2 hr ok2 => ?_)
  · refine wpAny_execs_cons ?_
    repeat' (walk_at "mc")
    all_goals (walk_at "fin"; refine ⟨rfl, ?_⟩; walk_at "clr"; (simp_all [incF] <;> (intros; omega)))
  · obtain ⟨rfl, rfl⟩ := hr
    exact hq s2 ok2

theorem c_opASL (kf : KF K) (cx : Cx K n A env h₀ L) (hn : n < 80) (ap : Ap x d M rest) (ok : Ok og w x d M rest h₀ L l S s.heap (s.os, s.drawn) s.gens) (a0 : 0 ≤ S.a) (a1 : S.a ≤ 255) (hq : ∀ s', Ok og w x d M rest h₀ L l { S with a := bitAnd (S.a * 2) 255, p := aslF S.p S.a } s'.heap (s'.os, s'.drawn) s'.gens → Q .none s') :
    codeAny (model prog w) A (.call (.ref 211) ⟨[.ref x, .none], []⟩) (Rt Q E) s := by
  refine call_fn [(Str.ofString "x", .none), (Str.ofString "self", .ref x)] (fun v S' => v = .none ∧ S' = { S with a := bitAnd (S.a * 2) 255, p := aslF S.p S.a }) kf.m_opASL cx (by omega) ok (fun _ _ _ _ _ _ _ => by kernel_rfl) (by kernel_rfl) (by kernel_rfl) (by kernel_rfl) (fun q cd g L' A' s1 cx1 ok1 => ?_) (fun v S' s2 hr ok2 => ?_)
  · refine wpAny_execs_cons ?_
    repeat' (walk_at "mc")
    all_goals (walk_at "fin"; refine ⟨rfl, ?_⟩; walk_at "clr"; (simp_all [aslF, carF] <;> (intros; omega)))
  · obtain ⟨rfl, rfl⟩ := hr
    exact hq s2 ok2

theorem c_opLSR (kf : KF K) (cx : Cx K n A env h₀ L) (hn : n < 80) (ap : Ap x d M rest) (ok : Ok og w x d M rest h₀ L l S s.heap (s.os, s.drawn) s.gens) (a0 : 0 ≤ S.a) (a1 : S.a ≤ 255) (hq : ∀ s', Ok og w x d M rest h₀ L l { S with a := S.a.fdiv 2, p := lsrF S.p S.a } s'.heap (s'.os, s'.drawn) s'.gens → Q .none s') :
    codeAny (model prog w) A (.call (.ref 218) ⟨[.ref x, .none], []⟩) (Rt Q E) s := by
  refine call_fn [(Str.ofString "x", .none), (Str.ofString "self", .ref x)] (fun v S' => v = .none ∧ S' = { S with a := S.a.fdiv 2, p := lsrF S.p S.a }) kf.m_opLSR cx (by omega) ok (fun _ _ _ _ _ _ _ => by kernel_rfl) (by kernel_rfl) (by kernel_rfl) (by kernel_rfl) (fun q cd g L' A' s1 cx1 ok1 => ?_) (fun v S' s2 hr ok2 => ?_)
  · refine wpAny_execs_cons ?_
    repeat' (walk_at "mc")
    all_goals (walk_at "fin"; refine ⟨rfl, ?_⟩; walk_at "clr"; (simp_all [lsrF] <;> (intros; omega)))
  · obtain ⟨rfl, rfl⟩ := hr
    exact hq s2 ok2

theorem c_opROL (kf : KF K) (cx : Cx K n A env h₀ L) (hn : n < 80) (ap : Ap x d M rest) (ok : Ok og w x d M rest h₀ L l S s.heap (s.os, s.drawn) s.gens) (a0 : 0 ≤ S.a) (a1 : S.a ≤ 255) (hq : ∀ s', Ok og w x d M rest h₀ L l { S with a := rolA S.p S.a, p := nzF (rolC S.p S.a) (rolA S.p S.a) } s'.heap (s'.os, s'.drawn) s'.gens → Q .none s') :
    codeAny (model prog w) A (.call (.ref 267) ⟨[.ref x, .none], []⟩) (Rt Q E) s := by
  refine call_fn [(Str.ofString "x", .none), (Str.ofString "self", .ref x)] (fun v S' => v = .none ∧ S' = { S with a := rolA S.p S.a, p := nzF (rolC S.p S.a) (rolA S.p S.a) }) kf.m_opROL cx (by omega) ok (fun _ _ _ _ _ _ _ => by kernel_rfl) (by kernel_rfl) (by kernel_rfl) (by kernel_rfl) (fun q cd g L' A' s1 cx1 ok1 => ?_) (fun v S' s2 hr ok2 => ?_)
  · refine wpAny_execs_cons ?_
    repeat' (walk_at "mc")
    all_goals (walk_at "fin"; refine ⟨rfl, ?_⟩; walk_at "clr"; (simp_all [rolA, rolC] <;> (intros; omega)))
  · obtain ⟨rfl, rfl⟩ := hr
    exact hq s2 ok2

theorem c_opSET (kf : KF K) (cx : Cx K n A env h₀ L) (hn : n < 80) (ap : Ap x d M rest) (ok : Ok og w x d M rest h₀ L l S s.heap (s.os, s.drawn) s.gens) {r : Int} (hq : ∀ s', Ok og w x d M rest h₀ L l { S with p := bitOr S.p r } s'.heap (s'.os, s'.drawn) s'.gens → Q .none s') :
    codeAny (model prog w) A (.call (.ref 246) ⟨[.ref x, .int r t0], []⟩) (Rt Q E) s := by
  refine call_fn [(Str.ofString "x", .int r t0), (Str.ofString "self", .ref x)] (fun v S' => v = .none ∧ S' = { S with p := bitOr S.p r }) kf.m_opSET cx (by omega) ok (fun _ _ _ _ _ _ _ => by kernel_rfl) (by kernel_rfl) (by kernel_rfl) (by kernel_rfl) (fun q cd g L' A' s1 cx1 ok1 => ?_) (fun v S' s2 hr ok2 => ?_)
  · refine wpAny_execs_cons ?_
    repeat' (walk_at "mc")
    all_goals (walk_at "fin"; exact ⟨rfl, rfl⟩)
  · obtain ⟨rfl, rfl⟩ := hr
    exact hq s2 ok2

theorem c_stPush (kf : KF K) (cx : Cx K n A env h₀ L) (hn : n < 80) (ap : Ap x d M rest) (ok : Ok og w x d M rest h₀ L l S s.heap (s.os, s.drawn) s.gens) {r : Int} (hlen : S.mem.length = 768) (p0 : 0 ≤ S.sp) (p1 : S.sp ≤ 255) (hq : ∀ s', Ok og w x d M rest h₀ L l { S with mem := S.mem.set (S.sp + 256).toNat (bitAnd r 255), sp := bitAnd (S.sp - 1) 255 } s'.heap (s'.os, s'.drawn) s'.gens → Q .none s') :
    codeAny (model prog w) A (.call (.ref 169) ⟨[.ref x, .int r t0], []⟩) (Rt Q E) s := by
  refine call_fn [(Str.ofString "z", .int r t0), (Str.ofString "self", .ref x)] (fun v S' => v = .none ∧ S' = { S with mem := S.mem.set (S.sp + 256).toNat (bitAnd r 255), sp := bitAnd (S.sp - 1) 255 }) kf.m_stPush cx (by omega) ok (fun _ _ _ _ _ _ _ => by kernel_rfl) (by kernel_rfl) (by kernel_rfl) (by kernel_rfl) (fun q cd g L' A' s1 cx1 ok1 => ?_) (fun v S' s2 hr ok2 => ?_)
  · refine wpAny_execs_cons ?_
    repeat' (walk_at "mc")
    all_goals (walk_at "fin"; exact ⟨rfl, rfl⟩)
  · obtain ⟨rfl, rfl⟩ := hr
    exact hq s2 ok2

theorem c_stPop (kf : KF K) (cx : Cx K n A env h₀ L) (hn : n < 80) (ap : Ap x d M rest) (ok : Ok og w x d M rest h₀ L l S s.heap (s.os, s.drawn) s.gens) (hlen : S.mem.length = 768) (p0 : 0 ≤ bitAnd (S.sp + 1) 255) (p1 : bitAnd (S.sp + 1) 255 ≤ 255) (hq : ∀ t s', Ok og w x d M rest h₀ L l { S with sp := bitAnd (S.sp + 1) 255 } s'.heap (s'.os, s'.drawn) s'.gens → Q (.int (S.mem.getD (bitAnd (S.sp + 1) 255 + 256).toNat 0) t) s') :
    codeAny (model prog w) A (.call (.ref 176) ⟨[.ref x], []⟩) (Rt Q E) s := by
  refine call_fn [(Str.ofString "self", .ref x)] (fun v S' => S' = { S with sp := bitAnd (S.sp + 1) 255 } ∧ IsI v (S.mem.getD (bitAnd (S.sp + 1) 255 + 256).toNat 0)) kf.m_stPop cx (by omega) ok (fun _ _ _ _ _ _ _ => by kernel_rfl) (by kernel_rfl) (by kernel_rfl) (by kernel_rfl) (fun q cd g L' A' s1 cx1 ok1 => ?_) (fun v S' s2 hr ok2 => ?_)
  · refine wpAny_execs_cons ?_
    repeat' (walk_at "mc")
    all_goals (walk_at "fin"; exact ⟨rfl, _, rfl⟩)
  · obtain ⟨rfl, t, rfl⟩ := hr
    exact hq t s2 ok2
end
section
variable {og o9 : OsState × Drawn} {g9 : Array GenState} {K : Frag} {n : Nat} {A : Around} {env : Env} {h₀ : Heap} {L x d M f b g : Addr} {rest : List (Addr × Obj)} {l : List (Str × Value)} {S S' : MS} {s : Shared} {w : World} {prog : Program} {E : Value → Shared → Prop}
  {Q : Value → Shared → Prop} {k : Int} {t0 : Tok} {mi : Nat} {mn : Str}
def adcR (p a v : Int) : Int := v + a + (bif (bitAnd p 1 != 0) then 1 else 0)
def adcD (p a v : Int) : Int := bif decide (255 < adcR p a v) then bitAnd (adcR p a v) 255 else adcR p a v
def adcV (p a v : Int) : Int := bif (bitAnd (bitAnd (bitNot (bitXor a v)) (bitXor a (adcR p a v))) 128 != 0) then bitOr (bitAnd p (bitNot (bitOr (bitOr (bitOr 1 64) 128) 2))) 64 else bitAnd p (bitNot (bitOr (bitOr (bitOr 1 64) 128) 2))
def adcC (p a v : Int) : Int := bif decide (255 < adcR p a v) then bitOr (adcV p a v) 1 else adcV p a v
def adcF (p a v : Int) : Int := bif (adcD p a v == 0) then bitOr (adcC p a v) 2 else bitOr (adcC p a v) (bitAnd (adcD p a v) 128)
def gt255 (x : Int) : Bool := decide (255 < x)
theorem gt255_eq (x : Int) : gt255 x = decide (255 < x) := rfl
def sbcR (p a v : Int) : Int := a + bitAnd (bitNot v) 255 + bitAnd p 1
def sbcD (p a v : Int) : Int := bitAnd (sbcR p a v) 255
def sbcV (p a v : Int) : Int := bif (bitAnd (bitAnd (bitXor a v) (bitXor a (sbcR p a v))) 128 != 0) then bitOr (bitAnd p (bitNot (bitOr (bitOr (bitOr 1 2) 64) 128))) 64 else bitAnd p (bitNot (bitOr (bitOr (bitOr 1 2) 64) 128))
def sbcZ (p a v : Int) : Int := bif (sbcD p a v == 0) then bitOr (sbcV p a v) 2 else sbcV p a v
def sbcC (p a v : Int) : Int := bif gt255 (sbcR p a v) then bitOr (sbcZ p a v) 1 else sbcZ p a v
def sbcF (p a v : Int) : Int := bitOr (sbcC p a v) (bitAnd (sbcD p a v) 128)
theorem c_opADC (kf : KF K) (cx : Cx K n A env h₀ L) (hn : n < 80) (ap : Ap x d M rest) (ok : Ok og w x d M rest h₀ L l S s.heap (s.os, s.drawn) s.gens) (hlen : S.mem.length = 768) (mt : Meth K mi mn g) (hb : (b, methodObj (.ref g) (.ref x)) ∈ rest) (gv : Gives K w prog x d M g k S) (k0 : 0 ≤ k) (k1 : k < 768) (hD : (bitAnd S.p 8 != 0) = false) (hq : ∀ s', Ok og w x d M rest h₀ L l { S with a := adcD S.p S.a (S.mem.getD k.toNat 0), p := adcF S.p S.a (S.mem.getD k.toNat 0) } s'.heap (s'.os, s'.drawn) s'.gens → Q .none s') :
    codeAny (model prog w) A (.call (.ref 281) ⟨[.ref x, .ref b], []⟩) (Rt Q E) s := by
  refine call_fn [(Str.ofString "x", .ref b), (Str.ofString "self", .ref x)] (fun v S' => v = .none ∧ S' = { S with a := adcD S.p S.a (S.mem.getD k.toNat 0), p := adcF S.p S.a (S.mem.getD k.toNat 0) }) kf.m_opADC cx (by omega) ok (fun _ _ _ _ _ _ _ => by kernel_rfl) (by kernel_rfl) (by kernel_rfl) (by kernel_rfl) (fun q cd g L' A' s1 cx1 ok1 => ?_) (fun v S' s2 hr ok2 => ?_)
  · refine wpAny_execs_cons ?_
    repeat' (walk_at "mc")
    all_goals (walk_at "fin"; refine ⟨rfl, ?_⟩; walk_at "clr"; simp only [adcF, adcC, adcV, adcD, adcR, cond_true, cond_false, *] <;> (simp only [Bool.cond_decide]; simp only [decide_eq_true_eq, decide_eq_false_iff_not] at *; simp only [if_true, if_false, *]))
  · obtain ⟨rfl, rfl⟩ := hr
    exact hq s2 ok2
end
section
variable {og o9 : OsState × Drawn} {g9 : Array GenState} {K : Frag} {n : Nat} {A : Around} {env : Env} {h₀ : Heap} {L x d M f b g : Addr} {rest : List (Addr × Obj)} {l : List (Str × Value)} {S S' : MS} {s : Shared} {w : World} {prog : Program} {E : Value → Shared → Prop}
  {Q : Value → Shared → Prop} {k : Int} {t0 : Tok} {mi : Nat} {mn : Str}
theorem c_opSBC (kf : KF K) (cx : Cx K n A env h₀ L) (hn : n < 80) (ap : Ap x d M rest) (ok : Ok og w x d M rest h₀ L l S s.heap (s.os, s.drawn) s.gens) (hlen : S.mem.length = 768) (mt : Meth K mi mn g) (hb : (b, methodObj (.ref g) (.ref x)) ∈ rest) (gv : Gives K w prog x d M g k S) (k0 : 0 ≤ k) (k1 : k < 768) (hD : (bitAnd S.p 8 != 0) = false) (hq : ∀ s', Ok og w x d M rest h₀ L l { S with a := sbcD S.p S.a (S.mem.getD k.toNat 0), p := sbcF S.p S.a (S.mem.getD k.toNat 0) } s'.heap (s'.os, s'.drawn) s'.gens → Q .none s') :
    codeAny (model prog w) A (.call (.ref 323) ⟨[.ref x, .ref b], []⟩) (Rt Q E) s := by
  refine call_fn [(Str.ofString "x", .ref b), (Str.ofString "self", .ref x)] (fun v S' => v = .none ∧ S' = { S with a := sbcD S.p S.a (S.mem.getD k.toNat 0), p := sbcF S.p S.a (S.mem.getD k.toNat 0) }) kf.m_opSBC cx (by omega) ok (fun _ _ _ _ _ _ _ => by kernel_rfl) (by kernel_rfl) (by kernel_rfl) (by kernel_rfl) (fun q cd g L' A' s1 cx1 ok1 => ?_) (fun v S' s2 hr ok2 => ?_)
  · refine wpAny_execs_cons ?_
    repeat' (walk_at "mc")
    all_goals (walk_at "fin"; refine ⟨rfl, ?_⟩; walk_at "clr"; simp only [gt255_eq, sbcF, sbcC, sbcZ, sbcV, sbcD, sbcR, cond_true, cond_false, *] <;> (simp only [Bool.cond_decide]; simp only [decide_eq_true_eq, decide_eq_false_iff_not] at *; simp only [if_true, if_false, *]))
  · obtain ⟨rfl, rfl⟩ := hr
    exact hq s2 ok2
end
local macro_rules | `(tactic| walk_at "mi") => `(tactic| first
  | walk_at "mm"
  | ((with_reducible refine' r_bound ?kf (KFp.m_ProgramCounter ?kg) ?cx ?ap ?okk ?hl ?_); (case kf => walk_at "asm"); (case kg => walk_at "asm"); (case cx => walk_at "asm"); (case ap => walk_at "asm"); (case okk => walk_at "asm"); (case hl => (intro _ _; kernel_rfl)); intro _ _ _ _)
  | ((with_reducible refine' r_bound ?kf (KFp.m_ZeroPageAddr ?kg) ?cx ?ap ?okk ?hl ?_); (case kf => walk_at "asm"); (case kg => walk_at "asm"); (case cx => walk_at "asm"); (case ap => walk_at "asm"); (case okk => walk_at "asm"); (case hl => (intro _ _; kernel_rfl)); intro _ _ _ _))
section
variable {og o9 : OsState × Drawn} {g9 : Array GenState} {K : Frag} {n : Nat} {A : Around} {env : Env} {h₀ : Heap} {L x d M f b g : Addr} {rest : List (Addr × Obj)} {l : List (Str × Value)} {S S' : MS} {s : Shared} {w : World} {prog : Program} {E : Value → Shared → Prop}
  {Q : Value → Shared → Prop} {k : Int} {t0 : Tok} {mi : Nat} {mn : Str}
def Does (K : Frag) (w : World) (prog : Program) (x d M : Addr) (f : Addr) (S1 S2 : MS) : Prop :=
  ∀ (og : OsState × Drawn) (n : Nat) (A : Around) (env : Env) (h₀ : Heap) (L : Addr) (rest : List (Addr × Obj)) (l : List (Str × Value)) (s : Shared) (E : Value → Shared → Prop) (Q : Value → Shared → Prop), Cx K n A env h₀ L → n < 70 → Ap x d M rest → Ok og w x d M rest h₀ L l S1 s.heap (s.os, s.drawn) s.gens →
    (∀ s', Ok og w x d M rest h₀ L l S2 s'.heap (s'.os, s'.drawn) s'.gens → Q .none s') → codeAny (model prog w) A (.call (.ref f) ⟨[.ref x], []⟩) (Rt Q E) s
theorem d_0xa9 (kf : KF K) (hlen : S.mem.length = 768) (h0 : 0 ≤ S.pc) (h1 : S.pc < 768) : Does K w prog x d M 1051 S { S with a := (S.mem.getD S.pc.toNat 0), p := nzF S.p (S.mem.getD S.pc.toNat 0), pc := S.pc + 1 } := by
  intro og n A env h₀ L rest l s E Q cx hn ap ok hq
  refine call_fn [(Str.ofString "self", .ref x)] (fun v S' => v = .none ∧ S' = { S with a := (S.mem.getD S.pc.toNat 0), p := nzF S.p (S.mem.getD S.pc.toNat 0), pc := S.pc + 1 }) kf.m_inst_0xa9 cx (by omega) ok (fun _ _ _ _ _ _ _ => by kernel_rfl) (by kernel_rfl) (by kernel_rfl) (by kernel_rfl) (fun q cd g L' A' s1 cx1 ok1 => ?_) (fun v S' s2 hr ok2 => ?_)
  · refine wpAny_execs_cons ?_
    repeat' (walk_at "mm")
    with_reducible refine' r_mcall kf kf.m_opLDA cx1 (by walk_at "asm") (fun _ _ => by kernel_rfl) ?hx ?_
    (case hx => walk_at "at")
    repeat' (walk_at "mi")
    refine c_opLDA kf cx1 (by omega) (by walk_at "asm") (by walk_at "asm") hlen kf.m_ProgramCounter (.head _) (c_PC kf) h0 h1 ?_
    intro s2 ok2
    repeat' (walk_at "mm")
    exact ⟨_, _, Ok.drop (by walk_at "asm"), rfl, rfl⟩
  · obtain ⟨rfl, rfl⟩ := hr
    exact hq s2 ok2
theorem d_0xa2 (kf : KF K) (hlen : S.mem.length = 768) (h0 : 0 ≤ S.pc) (h1 : S.pc < 768) : Does K w prog x d M 1016 S { S with x := (S.mem.getD S.pc.toNat 0), p := nzF S.p (S.mem.getD S.pc.toNat 0), pc := S.pc + 1 } := by
  intro og n A env h₀ L rest l s E Q cx hn ap ok hq
  refine call_fn [(Str.ofString "self", .ref x)] (fun v S' => v = .none ∧ S' = { S with x := (S.mem.getD S.pc.toNat 0), p := nzF S.p (S.mem.getD S.pc.toNat 0), pc := S.pc + 1 }) kf.m_inst_0xa2 cx (by omega) ok (fun _ _ _ _ _ _ _ => by kernel_rfl) (by kernel_rfl) (by kernel_rfl) (by kernel_rfl) (fun q cd g L' A' s1 cx1 ok1 => ?_) (fun v S' s2 hr ok2 => ?_)
  · refine wpAny_execs_cons ?_
    repeat' (walk_at "mm")
    with_reducible refine' r_mcall kf kf.m_opLDX cx1 (by walk_at "asm") (fun _ _ => by kernel_rfl) ?hx ?_
    (case hx => walk_at "at")
    repeat' (walk_at "mi")
    refine c_opLDX kf cx1 (by omega) (by walk_at "asm") (by walk_at "asm") hlen kf.m_ProgramCounter (.head _) (c_PC kf) h0 h1 ?_
    intro s2 ok2
    repeat' (walk_at "mm")
    exact ⟨_, _, Ok.drop (by walk_at "asm"), rfl, rfl⟩
  · obtain ⟨rfl, rfl⟩ := hr
    exact hq s2 ok2
theorem d_0xa0 (kf : KF K) (hlen : S.mem.length = 768) (h0 : 0 ≤ S.pc) (h1 : S.pc < 768) : Does K w prog x d M 1002 S { S with y := (S.mem.getD S.pc.toNat 0), p := nzF S.p (S.mem.getD S.pc.toNat 0), pc := S.pc + 1 } := by
  intro og n A env h₀ L rest l s E Q cx hn ap ok hq
  refine call_fn [(Str.ofString "self", .ref x)] (fun v S' => v = .none ∧ S' = { S with y := (S.mem.getD S.pc.toNat 0), p := nzF S.p (S.mem.getD S.pc.toNat 0), pc := S.pc + 1 }) kf.m_inst_0xa0 cx (by omega) ok (fun _ _ _ _ _ _ _ => by kernel_rfl) (by kernel_rfl) (by kernel_rfl) (by kernel_rfl) (fun q cd g L' A' s1 cx1 ok1 => ?_) (fun v S' s2 hr ok2 => ?_)
  · refine wpAny_execs_cons ?_
    repeat' (walk_at "mm")
    with_reducible refine' r_mcall kf kf.m_opLDY cx1 (by walk_at "asm") (fun _ _ => by kernel_rfl) ?hx ?_
    (case hx => walk_at "at")
    repeat' (walk_at "mi")
    refine c_opLDY kf cx1 (by omega) (by walk_at "asm") (by walk_at "asm") hlen kf.m_ProgramCounter (.head _) (c_PC kf) h0 h1 ?_
    intro s2 ok2
    repeat' (walk_at "mm")
    exact ⟨_, _, Ok.drop (by walk_at "asm"), rfl, rfl⟩
  · obtain ⟨rfl, rfl⟩ := hr
    exact hq s2 ok2
theorem d_0x69 (kf : KF K) (hlen : S.mem.length = 768) (h0 : 0 ≤ S.pc) (h1 : S.pc < 768) (hD : (bitAnd S.p 8 != 0) = false) : Does K w prog x d M 785 S { S with a := adcD S.p S.a (S.mem.getD S.pc.toNat 0), p := adcF S.p S.a (S.mem.getD S.pc.toNat 0), pc := S.pc + 1 } := by
  intro og n A env h₀ L rest l s E Q cx hn ap ok hq
  refine call_fn [(Str.ofString "self", .ref x)] (fun v S' => v = .none ∧ S' = { S with a := adcD S.p S.a (S.mem.getD S.pc.toNat 0), p := adcF S.p S.a (S.mem.getD S.pc.toNat 0), pc := S.pc + 1 }) kf.m_inst_0x69 cx (by omega) ok (fun _ _ _ _ _ _ _ => by kernel_rfl) (by kernel_rfl) (by kernel_rfl) (by kernel_rfl) (fun q cd g L' A' s1 cx1 ok1 => ?_) (fun v S' s2 hr ok2 => ?_)
  · refine wpAny_execs_cons ?_
    repeat' (walk_at "mm")
    with_reducible refine' r_mcall kf kf.m_opADC cx1 (by walk_at "asm") (fun _ _ => by kernel_rfl) ?hx ?_
    (case hx => walk_at "at")
    repeat' (walk_at "mi")
    refine c_opADC kf cx1 (by omega) (by walk_at "asm") (by walk_at "asm") hlen kf.m_ProgramCounter (.head _) (c_PC kf) h0 h1 hD ?_
    intro s2 ok2
    repeat' (walk_at "mm")
    exact ⟨_, _, Ok.drop (by walk_at "asm"), rfl, rfl⟩
  · obtain ⟨rfl, rfl⟩ := hr
    exact hq s2 ok2
theorem d_0xe9 (kf : KF K) (hlen : S.mem.length = 768) (h0 : 0 ≤ S.pc) (h1 : S.pc < 768) (hD : (bitAnd S.p 8 != 0) = false) : Does K w prog x d M 1338 S { S with a := sbcD S.p S.a (S.mem.getD S.pc.toNat 0), p := sbcF S.p S.a (S.mem.getD S.pc.toNat 0), pc := S.pc + 1 } := by
  intro og n A env h₀ L rest l s E Q cx hn ap ok hq
  refine call_fn [(Str.ofString "self", .ref x)] (fun v S' => v = .none ∧ S' = { S with a := sbcD S.p S.a (S.mem.getD S.pc.toNat 0), p := sbcF S.p S.a (S.mem.getD S.pc.toNat 0), pc := S.pc + 1 }) kf.m_inst_0xe9 cx (by omega) ok (fun _ _ _ _ _ _ _ => by kernel_rfl) (by kernel_rfl) (by kernel_rfl) (by kernel_rfl) (fun q cd g L' A' s1 cx1 ok1 => ?_) (fun v S' s2 hr ok2 => ?_)
  · refine wpAny_execs_cons ?_
    repeat' (walk_at "mm")
    with_reducible refine' r_mcall kf kf.m_opSBC cx1 (by walk_at "asm") (fun _ _ => by kernel_rfl) ?hx ?_
    (case hx => walk_at "at")
    repeat' (walk_at "mi")
    refine c_opSBC kf cx1 (by omega) (by walk_at "asm") (by walk_at "asm") hlen kf.m_ProgramCounter (.head _) (c_PC kf) h0 h1 hD ?_
    intro s2 ok2
    repeat' (walk_at "mm")
    exact ⟨_, _, Ok.drop (by walk_at "asm"), rfl, rfl⟩
  · obtain ⟨rfl, rfl⟩ := hr
    exact hq s2 ok2
theorem d_0xc9 (kf : KF K) (hlen : S.mem.length = 768) (h0 : 0 ≤ S.pc) (h1 : S.pc < 768) : Does K w prog x d M 1205 S { S with p := cmpF S.p S.a (S.mem.getD S.pc.toNat 0), pc := S.pc + 1 } := by
  intro og n A env h₀ L rest l s E Q cx hn ap ok hq
  refine call_fn [(Str.ofString "self", .ref x)] (fun v S' => v = .none ∧ S' = { S with p := cmpF S.p S.a (S.mem.getD S.pc.toNat 0), pc := S.pc + 1 }) kf.m_inst_0xc9 cx (by omega) ok (fun _ _ _ _ _ _ _ => by kernel_rfl) (by kernel_rfl) (by kernel_rfl) (by kernel_rfl) (fun q cd g L' A' s1 cx1 ok1 => ?_) (fun v S' s2 hr ok2 => ?_)
  · refine wpAny_execs_cons ?_
    repeat' (walk_at "mm")
    with_reducible refine' r_mcall kf kf.m_opCMPR cx1 (by walk_at "asm") (fun _ _ => by kernel_rfl) ?hx ?_
    (case hx => walk_at "at")
    repeat' (walk_at "mi")
    refine c_opCMPR kf cx1 (by omega) (by walk_at "asm") (by walk_at "asm") hlen kf.m_ProgramCounter (.head _) (c_PC kf) h0 h1 ?_
    intro s2 ok2
    repeat' (walk_at "mm")
    exact ⟨_, _, Ok.drop (by walk_at "asm"), rfl, rfl⟩
  · obtain ⟨rfl, rfl⟩ := hr
    exact hq s2 ok2
theorem d_0x85 (kf : KF K) (hlen : S.mem.length = 768) (h0 : 0 ≤ S.pc) (h1 : S.pc < 768) (z0 : 0 ≤ S.mem.getD S.pc.toNat 0) (z1 : S.mem.getD S.pc.toNat 0 < 768) : Does K w prog x d M 890 S { S with mem := S.mem.set (S.mem.getD S.pc.toNat 0).toNat S.a, pc := S.pc + 1 } := by
  intro og n A env h₀ L rest l s E Q cx hn ap ok hq
  refine call_fn [(Str.ofString "self", .ref x)] (fun v S' => v = .none ∧ S' = { S with mem := S.mem.set (S.mem.getD S.pc.toNat 0).toNat S.a, pc := S.pc + 1 }) kf.m_inst_0x85 cx (by omega) ok (fun _ _ _ _ _ _ _ => by kernel_rfl) (by kernel_rfl) (by kernel_rfl) (by kernel_rfl) (fun q cd g L' A' s1 cx1 ok1 => ?_) (fun v S' s2 hr ok2 => ?_)
  · refine wpAny_execs_cons ?_
    repeat' (walk_at "mm")
    with_reducible refine' r_mcall kf kf.m_opSTA cx1 (by walk_at "asm") (fun _ _ => by kernel_rfl) ?hx ?_
    (case hx => walk_at "at")
    repeat' (walk_at "mi")
    refine c_opSTA kf cx1 (by omega) (by walk_at "asm") (by walk_at "asm") hlen kf.m_ZeroPageAddr (.head _) (c_ZP kf hlen h0 h1) z0 z1 ?_
    intro s2 ok2
    repeat' (walk_at "mm")
    exact ⟨_, _, Ok.drop (by walk_at "asm"), rfl, rfl⟩
  · obtain ⟨rfl, rfl⟩ := hr
    exact hq s2 ok2
theorem d_0xa5 (kf : KF K) (hlen : S.mem.length = 768) (h0 : 0 ≤ S.pc) (h1 : S.pc < 768) (z0 : 0 ≤ S.mem.getD S.pc.toNat 0) (z1 : S.mem.getD S.pc.toNat 0 < 768) : Does K w prog x d M 1030 S { S with a := (S.mem.getD (S.mem.getD S.pc.toNat 0).toNat 0), p := nzF S.p (S.mem.getD (S.mem.getD S.pc.toNat 0).toNat 0), pc := S.pc + 1 } := by
  intro og n A env h₀ L rest l s E Q cx hn ap ok hq
  refine call_fn [(Str.ofString "self", .ref x)] (fun v S' => v = .none ∧ S' = { S with a := (S.mem.getD (S.mem.getD S.pc.toNat 0).toNat 0), p := nzF S.p (S.mem.getD (S.mem.getD S.pc.toNat 0).toNat 0), pc := S.pc + 1 }) kf.m_inst_0xa5 cx (by omega) ok (fun _ _ _ _ _ _ _ => by kernel_rfl) (by kernel_rfl) (by kernel_rfl) (by kernel_rfl) (fun q cd g L' A' s1 cx1 ok1 => ?_) (fun v S' s2 hr ok2 => ?_)
  · refine wpAny_execs_cons ?_
    repeat' (walk_at "mm")
    with_reducible refine' r_mcall kf kf.m_opLDA cx1 (by walk_at "asm") (fun _ _ => by kernel_rfl) ?hx ?_
    (case hx => walk_at "at")
    repeat' (walk_at "mi")
    refine c_opLDA kf cx1 (by omega) (by walk_at "asm") (by walk_at "asm") hlen kf.m_ZeroPageAddr (.head _) (c_ZP kf hlen h0 h1) z0 z1 ?_
    intro s2 ok2
    repeat' (walk_at "mm")
    exact ⟨_, _, Ok.drop (by walk_at "asm"), rfl, rfl⟩
  · obtain ⟨rfl, rfl⟩ := hr
    exact hq s2 ok2
theorem d_0xe6 (kf : KF K) (hlen : S.mem.length = 768) (h0 : 0 ≤ S.pc) (h1 : S.pc < 768) (z0 : 0 ≤ S.mem.getD S.pc.toNat 0) (z1 : S.mem.getD S.pc.toNat 0 < 768) : Does K w prog x d M 1324 S { S with mem := S.mem.set (S.mem.getD S.pc.toNat 0).toNat (bitAnd ((S.mem.getD (S.mem.getD S.pc.toNat 0).toNat 0) + 1) 255), p := incF S.p (bitAnd ((S.mem.getD (S.mem.getD S.pc.toNat 0).toNat 0) + 1) 255), pc := S.pc + 1 } := by
  intro og n A env h₀ L rest l s E Q cx hn ap ok hq
  refine call_fn [(Str.ofString "self", .ref x)] (fun v S' => v = .none ∧ S' = { S with mem := S.mem.set (S.mem.getD S.pc.toNat 0).toNat (bitAnd ((S.mem.getD (S.mem.getD S.pc.toNat 0).toNat 0) + 1) 255), p := incF S.p (bitAnd ((S.mem.getD (S.mem.getD S.pc.toNat 0).toNat 0) + 1) 255), pc := S.pc + 1 }) kf.m_inst_0xe6 cx (by omega) ok (fun _ _ _ _ _ _ _ => by kernel_rfl) (by kernel_rfl) (by kernel_rfl) (by kernel_rfl) (fun q cd g L' A' s1 cx1 ok1 => ?_) (fun v S' s2 hr ok2 => ?_)
  · refine wpAny_execs_cons ?_
    repeat' (walk_at "mm")
    with_reducible refine' r_mcall kf kf.m_opINCR cx1 (by walk_at "asm") (fun _ _ => by kernel_rfl) ?hx ?_
    (case hx => walk_at "at")
    repeat' (walk_at "mi")
    refine c_opINCR kf cx1 (by omega) (by walk_at "asm") (by walk_at "asm") hlen kf.m_ZeroPageAddr (.head _) (c_ZP kf hlen h0 h1) z0 z1 ?_
    intro s2 ok2
    repeat' (walk_at "mm")
    exact ⟨_, _, Ok.drop (by walk_at "asm"), rfl, rfl⟩
  · obtain ⟨rfl, rfl⟩ := hr
    exact hq s2 ok2
theorem d_0x0a (kf : KF K) (a0 : 0 ≤ S.a) (a1 : S.a ≤ 255) : Does K w prog x d M 414 S { S with a := bitAnd (S.a * 2) 255, p := aslF S.p S.a } := by
  intro og n A env h₀ L rest l s E Q cx hn ap ok hq
  refine call_fn [(Str.ofString "self", .ref x)] (fun v S' => v = .none ∧ S' = { S with a := bitAnd (S.a * 2) 255, p := aslF S.p S.a }) kf.m_inst_0x0a cx (by omega) ok (fun _ _ _ _ _ _ _ => by kernel_rfl) (by kernel_rfl) (by kernel_rfl) (by kernel_rfl) (fun q cd g L' A' s1 cx1 ok1 => ?_) (fun v S' s2 hr ok2 => ?_)
  · refine wpAny_execs_cons ?_
    repeat' (walk_at "mm")
    with_reducible refine' r_mcall kf kf.m_opASL cx1 (by walk_at "asm") (fun _ _ => by kernel_rfl) ?hx ?_
    (case hx => walk_at "at")
    repeat' (walk_at "mi")
    refine c_opASL kf cx1 (by omega) ap (by walk_at "asm") a0 a1 ?_
    intro s2 ok2
    repeat' (walk_at "mm")
    exact ⟨_, _, by walk_at "asm", rfl, rfl⟩
  · obtain ⟨rfl, rfl⟩ := hr
    exact hq s2 ok2
theorem d_0x4a (kf : KF K) (a0 : 0 ≤ S.a) (a1 : S.a ≤ 255) : Does K w prog x d M 666 S { S with a := S.a.fdiv 2, p := lsrF S.p S.a } := by
  intro og n A env h₀ L rest l s E Q cx hn ap ok hq
  refine call_fn [(Str.ofString "self", .ref x)] (fun v S' => v = .none ∧ S' = { S with a := S.a.fdiv 2, p := lsrF S.p S.a }) kf.m_inst_0x4a cx (by omega) ok (fun _ _ _ _ _ _ _ => by kernel_rfl) (by kernel_rfl) (by kernel_rfl) (by kernel_rfl) (fun q cd g L' A' s1 cx1 ok1 => ?_) (fun v S' s2 hr ok2 => ?_)
  · refine wpAny_execs_cons ?_
    repeat' (walk_at "mm")
    with_reducible refine' r_mcall kf kf.m_opLSR cx1 (by walk_at "asm") (fun _ _ => by kernel_rfl) ?hx ?_
    (case hx => walk_at "at")
    repeat' (walk_at "mi")
    refine c_opLSR kf cx1 (by omega) ap (by walk_at "asm") a0 a1 ?_
    intro s2 ok2
    repeat' (walk_at "mm")
    exact ⟨_, _, by walk_at "asm", rfl, rfl⟩
  · obtain ⟨rfl, rfl⟩ := hr
    exact hq s2 ok2
theorem d_0x2a (kf : KF K) (a0 : 0 ≤ S.a) (a1 : S.a ≤ 255) : Does K w prog x d M 540 S { S with a := rolA S.p S.a, p := nzF (rolC S.p S.a) (rolA S.p S.a) } := by
  intro og n A env h₀ L rest l s E Q cx hn ap ok hq
  refine call_fn [(Str.ofString "self", .ref x)] (fun v S' => v = .none ∧ S' = { S with a := rolA S.p S.a, p := nzF (rolC S.p S.a) (rolA S.p S.a) }) kf.m_inst_0x2a cx (by omega) ok (fun _ _ _ _ _ _ _ => by kernel_rfl) (by kernel_rfl) (by kernel_rfl) (by kernel_rfl) (fun q cd g L' A' s1 cx1 ok1 => ?_) (fun v S' s2 hr ok2 => ?_)
  · refine wpAny_execs_cons ?_
    repeat' (walk_at "mm")
    with_reducible refine' r_mcall kf kf.m_opROL cx1 (by walk_at "asm") (fun _ _ => by kernel_rfl) ?hx ?_
    (case hx => walk_at "at")
    repeat' (walk_at "mi")
    refine c_opROL kf cx1 (by omega) ap (by walk_at "asm") a0 a1 ?_
    intro s2 ok2
    repeat' (walk_at "mm")
    exact ⟨_, _, by walk_at "asm", rfl, rfl⟩
  · obtain ⟨rfl, rfl⟩ := hr
    exact hq s2 ok2
theorem d_0xaa (kf : KF K)  : Does K w prog x d M 1058 S { S with x := S.a, p := nzF S.p S.a } := by
  intro og n A env h₀ L rest l s E Q cx hn ap ok hq
  refine call_fn [(Str.ofString "self", .ref x)] (fun v S' => v = .none ∧ S' = { S with x := S.a, p := nzF S.p S.a }) kf.m_inst_0xaa cx (by omega) ok (fun _ _ _ _ _ _ _ => by kernel_rfl) (by kernel_rfl) (by kernel_rfl) (by kernel_rfl) (fun q cd g L' A' s1 cx1 ok1 => ?_) (fun v S' s2 hr ok2 => ?_)
  · refine wpAny_execs_cons ?_
    repeat' (walk_at "mm")
    with_reducible refine' r_mcall kf kf.m_FlagsNZ cx1 (by walk_at "asm") (fun _ _ => by kernel_rfl) ?hx ?_
    (case hx => walk_at "at")
    repeat' (walk_at "mi")
    refine c_FlagsNZ kf cx1 (by omega) ap (by walk_at "asm") ?_
    intro s2 ok2
    repeat' (walk_at "mm")
    exact ⟨_, _, by walk_at "asm", rfl, rfl⟩
  · obtain ⟨rfl, rfl⟩ := hr
    exact hq s2 ok2
theorem d_0x48 (kf : KF K) (hlen : S.mem.length = 768) (p0 : 0 ≤ S.sp) (p1 : S.sp ≤ 255) : Does K w prog x d M 652 S { S with mem := S.mem.set (S.sp + 256).toNat (bitAnd S.a 255), sp := bitAnd (S.sp - 1) 255 } := by
  intro og n A env h₀ L rest l s E Q cx hn ap ok hq
  refine call_fn [(Str.ofString "self", .ref x)] (fun v S' => v = .none ∧ S' = { S with mem := S.mem.set (S.sp + 256).toNat (bitAnd S.a 255), sp := bitAnd (S.sp - 1) 255 }) kf.m_inst_0x48 cx (by omega) ok (fun _ _ _ _ _ _ _ => by kernel_rfl) (by kernel_rfl) (by kernel_rfl) (by kernel_rfl) (fun q cd g L' A' s1 cx1 ok1 => ?_) (fun v S' s2 hr ok2 => ?_)
  · refine wpAny_execs_cons ?_
    repeat' (walk_at "mm")
    with_reducible refine' r_mcall kf kf.m_stPush cx1 (by walk_at "asm") (fun _ _ => by kernel_rfl) ?hx ?_
    (case hx => walk_at "at")
    repeat' (walk_at "mi")
    refine c_stPush kf cx1 (by omega) ap (by walk_at "asm") hlen p0 p1 ?_
    intro s2 ok2
    repeat' (walk_at "mm")
    exact ⟨_, _, by walk_at "asm", rfl, rfl⟩
  · obtain ⟨rfl, rfl⟩ := hr
    exact hq s2 ok2
theorem d_0x68 (kf : KF K) (hlen : S.mem.length = 768) (p0 : 0 ≤ bitAnd (S.sp + 1) 255) (p1 : bitAnd (S.sp + 1) 255 ≤ 255) : Does K w prog x d M 778 S { S with sp := bitAnd (S.sp + 1) 255, a := (S.mem.getD (bitAnd (S.sp + 1) 255 + 256).toNat 0), p := nzF S.p (S.mem.getD (bitAnd (S.sp + 1) 255 + 256).toNat 0) } := by
  intro og n A env h₀ L rest l s E Q cx hn ap ok hq
  refine call_fn [(Str.ofString "self", .ref x)] (fun v S' => v = .none ∧ S' = { S with sp := bitAnd (S.sp + 1) 255, a := (S.mem.getD (bitAnd (S.sp + 1) 255 + 256).toNat 0), p := nzF S.p (S.mem.getD (bitAnd (S.sp + 1) 255 + 256).toNat 0) }) kf.m_inst_0x68 cx (by omega) ok (fun _ _ _ _ _ _ _ => by kernel_rfl) (by kernel_rfl) (by kernel_rfl) (by kernel_rfl) (fun q cd g L' A' s1 cx1 ok1 => ?_) (fun v S' s2 hr ok2 => ?_)
  · refine wpAny_execs_cons ?_
    repeat' (walk_at "mm")
    with_reducible refine' r_mcall0 kf kf.m_stPop cx1 (by walk_at "asm") (fun _ _ => by kernel_rfl) ?hx ?_
    (case hx => walk_at "at")
    repeat' (walk_at "mi")
    refine c_stPop kf cx1 (by omega) ap (by walk_at "asm") hlen p0 p1 ?_
    intro t s2 ok2
    repeat' (walk_at "mm")
    with_reducible refine' r_mcall kf kf.m_FlagsNZ cx1 (by walk_at "asm") (fun _ _ => by kernel_rfl) ?hx ?_
    (case hx => walk_at "at")
    repeat' (walk_at "mi")
    refine c_FlagsNZ kf cx1 (by omega) ap (by walk_at "asm") ?_
    intro s2 ok2
    repeat' (walk_at "mm")
    exact ⟨_, _, by walk_at "asm", rfl, rfl⟩
  · obtain ⟨rfl, rfl⟩ := hr
    exact hq s2 ok2
theorem d_0x38 (kf : KF K)  : Does K w prog x d M 596 S { S with p := bitOr S.p 1 } := by
  intro og n A env h₀ L rest l s E Q cx hn ap ok hq
  refine call_fn [(Str.ofString "self", .ref x)] (fun v S' => v = .none ∧ S' = { S with p := bitOr S.p 1 }) kf.m_inst_0x38 cx (by omega) ok (fun _ _ _ _ _ _ _ => by kernel_rfl) (by kernel_rfl) (by kernel_rfl) (by kernel_rfl) (fun q cd g L' A' s1 cx1 ok1 => ?_) (fun v S' s2 hr ok2 => ?_)
  · refine wpAny_execs_cons ?_
    repeat' (walk_at "mm")
    with_reducible refine' r_mcall kf kf.m_opSET cx1 (by walk_at "asm") (fun _ _ => by kernel_rfl) ?hx ?_
    (case hx => walk_at "at")
    repeat' (walk_at "mi")
    refine c_opSET kf cx1 (by omega) ap (by walk_at "asm") ?_
    intro s2 ok2
    repeat' (walk_at "mm")
    exact ⟨_, _, by walk_at "asm", rfl, rfl⟩
  · obtain ⟨rfl, rfl⟩ := hr
    exact hq s2 ok2
end
section
variable {og o9 : OsState × Drawn} {g9 : Array GenState} {K : Frag} {n : Nat} {A : Around} {env : Env} {h₀ : Heap} {L x d M f b g : Addr} {rest : List (Addr × Obj)} {l : List (Str × Value)} {S S' : MS} {s : Shared} {w : World} {prog : Program} {E : Value → Shared → Prop}
  {Q : Value → Shared → Prop} {k : Int} {t0 : Tok} {mi : Nat} {mn : Str}
theorem c_step (kf : KF K) {op : Nat} {fi : Addr} {S2 : MS} (hop : (op, fi) ∈ opfns) (hmem : op ∈ opcodes) (hk : S.mem.getD S.pc.toNat 0 = (op : Int)) (ho : (op : Int) < 256) (mt : Meth K mi mn fi) (hlen : S.mem.length = 768) (h0 : 0 ≤ S.pc) (h1 : S.pc < 768) (hpc : bitAnd (S.pc + 1) 65535 = S.pc + 1)
    (dz : Does K w prog x d M fi { S with pc := S.pc + 1, ex := 0 } S2) (hpc2 : bitAnd S2.pc 65535 = S2.pc)
    (cx : Cx K n A env h₀ L) (hn : n < 60) (ap : Ap x d M rest) (ok : Ok og w x d M rest h₀ L l S s.heap (s.os, s.drawn) s.gens) (hq : ∀ s', Ok og w x d M rest h₀ L l S2 s'.heap (s'.os, s'.drawn) s'.gens → Q (.ref x) s') :
    codeAny (model prog w) A (.call (.ref 43) ⟨[.ref x], []⟩) (Rt Q E) s := by
  obtain ⟨lx, nx, dx, sx, hlx, hxx⟩ := kf.lx
  obtain ⟨lc, nc, dc, sc, hlc, hxc⟩ := kf.lc
  obtain ⟨li, ni, di, si, hli, hxi⟩ := kf.li
  obtain ⟨e1, t1, he1⟩ := hxx op hmem
  obtain ⟨e2, t2, he2⟩ := hxc op hmem
  have he3 := hxi (op, fi) hop
  dsimp only at he3
  refine call_fn [(Str.ofString "self", .ref x)] (fun v S' => v = .ref x ∧ S' = S2) kf.m_step cx (by omega) ok (fun _ _ _ _ _ _ _ => by kernel_rfl) (by kernel_rfl) (by kernel_rfl) (by kernel_rfl) (fun q cd g L' A' s1 cx1 ok1 => ?_) (fun v S' s2 hr ok2 => ?_)
  · refine wpAny_execs_cons ?_
    repeat' (walk_at "mm")
    with_reducible refine' r_tab cx1 (by walk_at "asm") hlx (by rw [hk]; omega) (by rw [hk]; omega) (by rw [hk, Int.toNat_natCast]; exact he1) ?_ (by kernel_rfl)
    repeat' (walk_at "mm")
    refine Call_ ?_ (by kernel_rfl)
    repeat' (walk_at "mm")
    with_reducible refine' r_tab cx1 (by walk_at "asm") hli (by rw [hk]; omega) (by rw [hk]; omega) (by rw [hk, Int.toNat_natCast]; exact he3) ?_ (by kernel_rfl)
    refine callWith_K cx1.X mt.keep ?_ (by kernel_rfl) (by kernel_rfl)
    repeat' (walk_at "mm")
    rw [hpc] at *
    refine dz _ _ _ _ _ _ _ _ _ _ _ cx1 (by omega) ap (by walk_at "asm") ?_
    intro s2 ok2
    repeat' (walk_at "mm")
    with_reducible refine' r_tab cx1 (by walk_at "asm") hlc (by rw [hk]; omega) (by rw [hk]; omega) (by rw [hk, Int.toNat_natCast]; exact he2) ?_ (by kernel_rfl)
    repeat' (walk_at "mm")
    refine ⟨_, _, by walk_at "asm", rfl, ?_⟩
    rw [hpc2]
  · obtain ⟨rfl, rfl⟩ := hr
    exact hq s2 ok2
end
end
section
/-- frame and ledger -/
structure Lw (og : OsState × Drawn) (h₀ : Heap) (L : Addr) (l : List (Str × Value)) (news : List (Addr × Obj)) (h : Heap) (o : OsState × Drawn) (g : Array GenState) : Prop where
  F : Fr h₀ L h (Lk l)
  N : News h₀ L h news
  O : o = og ∧ g = #[]
section
variable {og o9 : OsState × Drawn} {g9 : Array GenState} {prog : Program} {w : World} {A : Around} {h₀ : Heap} {L : Addr} {env : Env} {target : PySem.Expr} {body : List Stmt} {Q : Flow → Shared → Prop} {E : Value → Shared → Prop} {s : Shared} {l : List (Str × Value)} {news : List (Addr × Obj)}
theorem same_but {og : OsState × Drawn} {a b : Shared} (h : (a.os, a.drawn) = og ∧ a.gens = #[]) (h' : (b.os, b.drawn) = og ∧ b.gens = #[]) : b = { a with heap := b.heap, toks := b.toks } := by
  obtain ⟨ha, ga, da, ta, oa⟩ := a
  obtain ⟨hb, gb, db, tb, ob⟩ := b
  obtain ⟨e1, e2⟩ := h
  obtain ⟨e3, e4⟩ := h'
  dsimp only at e1 e2 e3 e4
  obtain ⟨e5, e6⟩ := Prod.mk.inj (e3.trans e1.symm)
  subst e2 e4 e5 e6
  rfl
/-- a loop by what holds between its turns -/
theorem loop_own {R : Result → Shared → Prop} {I : Addr} {fp wr : List Addr} {n : Nat} {P Md : Nat → Value → Heap → Prop} {St : Nat → Heap → Prop} (W : KTurns prog w A target I fp wr n P Md St)
    (hLf : L ∉ fp) (hwr : ∀ b ∈ wr, h₀.get? b = none) (hnw : ∀ p ∈ news, p.1 ∉ wr) (hst : St 0 s.heap) (lw : Lw og h₀ L l news s.heap (s.os, s.drawn) s.gens)
    (J : Nat → List (Str × Value) → List (Addr × Obj) → Prop) (h0 : J 0 l news)
    (turn : ∀ i v l₁ news₁ s₁ own, i < n → P i v s₁.heap → J i l₁ news₁ → (∀ p ∈ news₁, p.1 ∉ wr) → (∀ p ∈ own, p.1 ∈ fp) → (∀ b ∈ fp, h₀.get? b = none → ∀ o, s₁.heap.get? b = some o → (b, o) ∈ own) → St (i + 1) s₁.heap → Lw og h₀ L l₁ (own ++ news₁) s₁.heap (s₁.os, s₁.drawn) s₁.gens →
      wpAny (model prog w) A (assign target env v) (fun _ s₂ => wpAny (model prog w) A (execs body env) (fun f s₃ => match f with
        | .ret v => R (.ok (.ret v)) s₃
        | .brk => R (.ok .next) s₃
        | _ => ∃ l₂ news₂, Lw og h₀ L l₂ (own ++ news₂) s₃.heap (s₃.os, s₃.drawn) s₃.gens ∧ (∀ p ∈ news₂, p.1 ∉ wr) ∧ J (i + 1) l₂ news₂) (fun _ _ => False) s₂) (fun _ _ => False) s₁)
    (done : ∀ l' news' s', Lw og h₀ L l' news' s'.heap (s'.os, s'.drawn) s'.gens → J n l' news' → R (.ok .next) s') (hL : env.locals = L := by rfl) : codeAny (model prog w) A (.forLoop target (.ref I) body [] env) R s := by
  subst hL
  refine ktu_loop (m := Lk l) W hLf hwr hnw hst lw.F lw.N (fun i m' news' => ∃ l', m' = Lk l' ∧ J i l' news') ⟨l, rfl, h0⟩ ?_ ?_
  · rintro i v m₁ news₁ h₁ tk₁ own hi hP ⟨l₁, rfl, hJ⟩ hn ho hget hall st F₁ N₁
    refine wpAny_mono (turn i v l₁ news₁ _ own hi hP hJ hn ho hall st ⟨F₁, N₁, lw.O⟩) (fun _ s₂ q => wpAny_mono q (fun f s₃ q => ?_) fun _ _ e => e.elim) fun _ _ e => e.elim
    cases f with
    | ret v => exact q
    | brk => exact q
    | cont =>
      obtain ⟨l₂, news₂, lw₃, hn₃, hJ₃⟩ := q
      exact ⟨rfl, s₃.heap, s₃.toks, Lk l₂, news₂, same_but (a := { s with heap := h₁, toks := tk₁ }) lw.O lw₃.O, lw₃.F, lw₃.N, hn₃, l₂, rfl, hJ₃⟩
    | next =>
      obtain ⟨l₂, news₂, lw₃, hn₃, hJ₃⟩ := q
      exact ⟨rfl, s₃.heap, s₃.toks, Lk l₂, news₂, same_but (a := { s with heap := h₁, toks := tk₁ }) lw.O lw₃.O, lw₃.F, lw₃.N, hn₃, l₂, rfl, hJ₃⟩
  · rintro h' tk m' news' F N hn ⟨l', rfl, hJ⟩
    exact done l' news' _ ⟨F, N, lw.O⟩ hJ
theorem for_list {ax : Addr} {vs : List Value} {c : Nat} (hh : A.handled = none) (lw : Lw og h₀ L l news s.heap (s.os, s.drawn) s.gens) (hm : (ax, listOf vs.toArray c) ∈ news)
    (J : Nat → List (Str × Value) → List (Addr × Obj) → Prop) (h0 : J 0 l news)
    (turn : ∀ i v l₁ news₁ s₁ own I, (∀ p ∈ news, p.1 < I) → vs[i]? = some v → J i l₁ news₁ → (∀ p ∈ news₁, p.1 ≠ I) → (∀ p ∈ own, p.1 = I ∨ p.1 = ax) → (∃ o, (I, o) ∈ own) → Lw og h₀ L l₁ (own ++ news₁) s₁.heap (s₁.os, s₁.drawn) s₁.gens →
      wpAny (model prog w) A (assign target env v) (fun _ s₂ => wpAny (model prog w) A (execs body env) (fun f s₃ => match f with
        | .ret v => Q (.ret v) s₃
        | .brk => Q .next s₃
        | _ => ∃ l₂ news₂, Lw og h₀ L l₂ (own ++ news₂) s₃.heap (s₃.os, s₃.drawn) s₃.gens ∧ (∀ p ∈ news₂, p.1 ≠ I) ∧ J (i + 1) l₂ news₂) (fun _ _ => False) s₂) (fun _ _ => False) s₁)
    (done : ∀ l' news' s', Lw og h₀ L l' news' s'.heap (s'.os, s'.drawn) s'.gens → J vs.length l' news' → Q .next s') (hL : env.locals = L := by rfl) :
    wpAny (model prog w) A (pyIter (.ref ax)) (fun it s₂ => codeAny (model prog w) A (.forLoop target it body [] env) (fun r s' => match r with | .ok f => Q f s' | .error e => cameBackBy (model prog w) A env E e s') s₂) E s := by
  have hax := lw.N _ hm
  have hl : s.heap.IsList ax vs.toArray := ⟨_, hax.1, rfl, c, rfl⟩
  have hlt : ax < s.heap.objs.size := Heap.lt_size hax.1
  have hne : ax ≠ s.heap.objs.size := Nat.ne_of_lt hlt
  refine wpAny_pyIter_list hl ?_
  have hall : ∀ p ∈ news, p.1 < s.heap.objs.size := fun p hp => Heap.lt_size (lw.N p hp).1
  refine loop_own (og := og) (KTurns.ofWalks (Walks.list hh s.heap.objs.size ax hne vs.toArray) fun i v s Q E st q => letGo_listiter st.1 q) ?_ ?_ ?_ ?_ (l := l) (news := news) (L := L) (h₀ := h₀) ?_ J h0 ?_ ?_ hL
  · intro hI
    rcases List.mem_cons.mp hI with e | hI
    · exact absurd lw.F.ns.lt (e ▸ Nat.lt_irrefl _)
    · exact hax.2.1 (List.mem_singleton.mp hI).symm
  · intro b hb
    rw [List.mem_singleton.mp hb]
    exact next_is_new lw.F
  · intro p hp hI
    exact absurd (hall p hp) ((List.mem_singleton.mp hI) ▸ Nat.lt_irrefl _)
  · exact ⟨⟨_, Heap.get?_push_size _ rfl, rfl, rfl⟩, hl.at fun o e => Heap.get?_push_of_some _ e⟩
  · exact ⟨lw.F.push _, fun p hp => ⟨Heap.get?_push_of_some _ (lw.N p hp).1, (lw.N p hp).2⟩, lw.O⟩
  · intro i v l₁ news₁ s₁ own hi hP hJ hn ho hall2 st₂ lw₁
    obtain ⟨it, hit, _⟩ := st₂.1
    have hmem := hall2 _ (.head _) (next_is_new lw.F) it hit
    have hv : vs[i]? = some v := by
      have hp' : vs.toArray[i]? = some v := hP
      simpa using hp'
    refine wpAny_mono (turn i v l₁ news₁ s₁ own s.heap.objs.size hall hv hJ (fun p hp e => hn p hp (by rw [e]; exact List.mem_singleton.mpr rfl)) (fun p hp => by have := ho p hp; simpa using this) ⟨it, hmem⟩ lw₁) (fun _ s₂ q => wpAny_mono q (fun f s₃ q => ?_) fun _ _ e => e) fun _ _ e => e
    have fin : (∃ l₂ news₂, Lw og h₀ L l₂ (own ++ news₂) s₃.heap (s₃.os, s₃.drawn) s₃.gens ∧ (∀ p ∈ news₂, p.1 ≠ s.heap.objs.size) ∧ J (i + 1) l₂ news₂) → ∃ l₂ news₂, Lw og h₀ L l₂ (own ++ news₂) s₃.heap (s₃.os, s₃.drawn) s₃.gens ∧ (∀ p ∈ news₂, p.1 ∉ [s.heap.objs.size]) ∧ J (i + 1) l₂ news₂ := by
      rintro ⟨l₂, news₂, a, b, c⟩
      exact ⟨l₂, news₂, a, fun p hp e => b p hp (List.mem_singleton.mp e), c⟩
    cases f with
    | ret v => exact q
    | brk => exact q
    | cont => exact fin q
    | next => exact fin q
  · intro l' news' s' lw' hJ
    exact done l' news' s' lw' (by simpa using hJ)
theorem for_range {r : Addr} {a₀ b₀ c₀ : Int} {t₀ u₀ v₀ : Tok} {n : Nat} (hh : A.handled = none) (lw : Lw og h₀ L l news s.heap (s.os, s.drawn) s.gens) (hr : IsRange s.heap r a₀ b₀ c₀ t₀ u₀ v₀) (hsmall : Builtin.Range.small a₀ b₀ c₀ = true) (hn : Builtin.Range.rangeSize a₀ b₀ c₀ = (n : Int))
    (hgo : ∀ v, letOwnedTupleGo target (.ref s.heap.objs.size) v = pure ())
    (J : Nat → List (Str × Value) → List (Addr × Obj) → Prop) (h0 : J 0 l news)
    (turn : ∀ i t l₁ news₁ s₁ own I, (∀ p ∈ news, p.1 < I) → i < n → J i l₁ news₁ → (∀ p ∈ news₁, p.1 ≠ I) → (∀ p ∈ own, p.1 = I) → (∃ o, (I, o) ∈ own) → Lw og h₀ L l₁ (own ++ news₁) s₁.heap (s₁.os, s₁.drawn) s₁.gens →
      wpAny (model prog w) A (assign target env (.int (a₀ + i * c₀) t)) (fun _ s₂ => wpAny (model prog w) A (execs body env) (fun f s₃ => match f with
        | .ret v => Q (.ret v) s₃
        | .brk => Q .next s₃
        | _ => ∃ l₂ news₂, Lw og h₀ L l₂ (own ++ news₂) s₃.heap (s₃.os, s₃.drawn) s₃.gens ∧ (∀ p ∈ news₂, p.1 ≠ I) ∧ J (i + 1) l₂ news₂) (fun _ _ => False) s₂) (fun _ _ => False) s₁)
    (done : ∀ l' news' s', Lw og h₀ L l' news' s'.heap (s'.os, s'.drawn) s'.gens → J n l' news' → Q .next s') (hL : env.locals = L := by rfl) :
    wpAny (model prog w) A (pyIter (.ref r)) (fun it s₂ => codeAny (model prog w) A (.forLoop target it body [] env) (fun r s' => match r with | .ok f => Q f s' | .error e => cameBackBy (model prog w) A env E e s') s₂) E s := by
  refine wpAny_pyIter_range hr hsmall ?_
  have hall : ∀ p ∈ news, p.1 < s.heap.objs.size := fun p hp => Heap.lt_size (lw.N p hp).1
  have W : Walks prog w A s.heap.objs.size [s.heap.objs.size] [s.heap.objs.size] n (fun i v => i < n ∧ ∃ t, v = .int (a₀ + i * c₀) t)
      (fun i h => IsRangeIter h s.heap.objs.size (a₀ + (i : Nat) * c₀) ((n : Int) - (i : Nat)) c₀) := (Walks.range hh _ a₀ c₀ n).bound
  refine loop_own (og := og) (KTurns.ofWalks W fun i v s Q E st q => by rw [hgo v]; exact wpAny_pure q) ?_ ?_ ?_ ?_ (l := l) (news := news) (L := L) (h₀ := h₀) ?_ J h0 ?_ ?_ hL
  · intro hI
    exact absurd lw.F.ns.lt ((List.mem_singleton.mp hI) ▸ Nat.lt_irrefl _)
  · intro b hb
    rw [List.mem_singleton.mp hb]
    exact next_is_new lw.F
  · intro p hp hI
    exact absurd (hall p hp) ((List.mem_singleton.mp hI) ▸ Nat.lt_irrefl _)
  · show IsRangeIter _ _ _ _ _
    rw [hn]
    simpa using Heap.get?_push_size _ rfl
  · exact ⟨lw.F.push _, fun p hp => ⟨Heap.get?_push_of_some _ (lw.N p hp).1, (lw.N p hp).2⟩, lw.O⟩
  · rintro i v l₁ news₁ s₁ own hi ⟨_, t, rfl⟩ hJ hn ho hall2 st₂ lw₁
    have hmem := hall2 _ (.head _) (next_is_new lw.F) _ st₂
    refine wpAny_mono (turn i t l₁ news₁ s₁ own s.heap.objs.size hall hi hJ (fun p hp e => hn p hp (by rw [e]; exact List.mem_singleton.mpr rfl)) (fun p hp => List.mem_singleton.mp (ho p hp)) ⟨_, hmem⟩ lw₁) (fun _ s₂ q => wpAny_mono q (fun f s₃ q => ?_) fun _ _ e => e) fun _ _ e => e
    have fin : (∃ l₂ news₂, Lw og h₀ L l₂ (own ++ news₂) s₃.heap (s₃.os, s₃.drawn) s₃.gens ∧ (∀ p ∈ news₂, p.1 ≠ s.heap.objs.size) ∧ J (i + 1) l₂ news₂) → ∃ l₂ news₂, Lw og h₀ L l₂ (own ++ news₂) s₃.heap (s₃.os, s₃.drawn) s₃.gens ∧ (∀ p ∈ news₂, p.1 ∉ [s.heap.objs.size]) ∧ J (i + 1) l₂ news₂ := by
      rintro ⟨l₂, news₂, a, b, c⟩
      exact ⟨l₂, news₂, a, fun p hp e => b p hp (List.mem_singleton.mp e), c⟩
    cases f with
    | ret v => exact q
    | brk => exact q
    | cont => exact fin q
    | next => exact fin q
  · intro l' news' s' lw' hJ
    exact done l' news' s' lw' hJ
end
section
variable {og o9 : OsState × Drawn} {g9 : Array GenState} {prog : Program} {w : World} {A : Around} {h₀ : Heap} {L f : Addr} {E : Value → Shared → Prop} {s : Shared} {l : List (Str × Value)} {news r : List (Addr × Obj)} {q : Str} {sc : Scope} {cd : Value} {nm : Str} {pos : Pos} {Q : Value → Shared → Prop} {a b : Int} {t u : Tok} {K : Frag} {n : Nat}
theorem Lw.ext {h h' : Heap} (lw : Lw og h₀ L l news h o9 g9) (k : ∀ b o, h.get? b = some o → h'.get? b = some o) : Lw og h₀ L l news h' o9 g9 :=
  ⟨⟨lw.F.ns.at' fun o e => k _ o e, fun b o e => k b o (lw.F.keep b o e), lw.F.above⟩, fun p hp => ⟨k _ _ (lw.N p hp).1, (lw.N p hp).2⟩, lw.O⟩
theorem Lw.extBut {h h' : Heap} (lw : Lw og h₀ L l news h o9 g9) (k : Heap.ExtBut h.objs.size h h') : Lw og h₀ L l news h' o9 g9 :=
  lw.ext fun b o e => k b o (Nat.ne_of_lt (Heap.lt_size e)) e
theorem Lw.sub {h : Heap} {news' : List (Addr × Obj)} (lw : Lw og h₀ L l news h o9 g9) (k : ∀ p ∈ news', p ∈ news) : Lw og h₀ L l news' h o9 g9 := ⟨lw.F, fun p hp => lw.N p (k p hp), lw.O⟩
theorem l_loc {v : Value} (lw : Lw og h₀ L l news s.heap (s.os, s.drawn) s.gens) (hm : At l nm v) (h : Q v s) (hk : sc.kind = .function := by kernel_rfl) (hl : (envOf q sc L f cd).kindOf nm = some .local := by kernel_rfl)
    (hd : (nm == ("__debug__" : Str)) = false := by kernel_rfl) : wpAny (model prog w) A (eval (.Name nm pos) (envOf q sc L f cd)) Q E s := ld lw.F hm.look h hk hl hd
theorem l_ldn {v : Value} (lw : Lw og h₀ L l news s.heap (s.os, s.drawn) s.gens) (hm : At l nm v) (h : Q v s) (hk : sc.kind = .function := by kernel_rfl) (hl : (envOf q sc L f cd).kindOf nm = some .local := by kernel_rfl) :
    wpAny (model prog w) A (loadName (envOf q sc L f cd) nm) Q E s := ldn lw.F hm.look h hk hl
theorem Lw.store {v : Value} {h h' : Heap} (lw : Lw og h₀ L l news h o9 g9) (hn : h'.Ns L (fun y => if y = nm then some v else Lk l y)) (hs : Heap.SameBut L h h') : Lw og h₀ L ((nm, v) :: l) news h' o9 g9 := by
  have F' := lw.F.set hn hs
  rw [lk_cons] at F'
  exact ⟨F', lw.N.set hs, lw.O⟩
theorem l_sto {v : Value} {Q : Unit → Shared → Prop} (lw : Lw og h₀ L l news s.heap (s.os, s.drawn) s.gens) (h : ∀ s', Lw og h₀ L ((nm, v) :: l) news s'.heap (s'.os, s'.drawn) s'.gens → Q () s') (hk : sc.kind = .function := by kernel_rfl) (hl : (envOf q sc L f cd).kindOf nm = some .local := by kernel_rfl) :
    wpAny (model prog w) A (storeName (envOf q sc L f cd) nm v) Q E s :=
  wpAny_storeName_local hl lw.F.ns (fun h' hn hs => h _ (lw.store hn hs)) (by show (sc.kind == .class || (sc.kind == .module && L != mainGlobals)) = false; rw [hk]; rfl)
theorem l_add (lw : Lw og h₀ L l news s.heap (s.os, s.drawn) s.gens) (h : ∀ t s', Lw og h₀ L l news s'.heap (s'.os, s'.drawn) s'.gens → Q (.int (a + b) t) s') : wpAny (model prog w) A (binaryOp .Add (.int a t) (.int b u)) Q E s := PyProof.Rows.add_int (h _ _ lw)
theorem l_sub (lw : Lw og h₀ L l news s.heap (s.os, s.drawn) s.gens) (h : ∀ t s', Lw og h₀ L l news s'.heap (s'.os, s'.drawn) s'.gens → Q (.int (a - b) t) s') : wpAny (model prog w) A (binaryOp .Sub (.int a t) (.int b u)) Q E s := PyProof.Rows.sub_int (h _ _ lw)
theorem l_mul7 (lw : Lw og h₀ L l news s.heap (s.os, s.drawn) s.gens) (hm : IntMulOk a b) (h : ∀ t s', Lw og h₀ L l news s'.heap (s'.os, s'.drawn) s'.gens → Q (.int (a * b) t) s') : wpAny (model prog w) A (binaryOp .Mult (.int a t) (.int b u)) Q E s := P.mul_int (h _ _ lw) hm
theorem l_mod (lw : Lw og h₀ L l news s.heap (s.os, s.drawn) s.gens) (hb : b ≠ 0) (h : ∀ t s', Lw og h₀ L l news s'.heap (s'.os, s'.drawn) s'.gens → Q (.int (a.fmod b) t) s') : wpAny (model prog w) A (binaryOp .Mod (.int a t) (.int b u)) Q E s := mod_int' hb (h _ _ lw)
theorem l_iadd (lw : Lw og h₀ L l news s.heap (s.os, s.drawn) s.gens) (h : ∀ t s', Lw og h₀ L l news s'.heap (s'.os, s'.drawn) s'.gens → Q (.int (a + b) t) s') : wpAny (model prog w) A (inplaceOp .Add (.int a t) (.int b u)) Q E s := iadd_int (h _ _ lw)
theorem l_int {i : Int} {k : Nat} {env : Env} (lw : Lw og h₀ L l news s.heap (s.os, s.drawn) s.gens) (h : ∀ t s', Lw og h₀ L l news s'.heap (s'.os, s'.drawn) s'.gens → Q (.int i t) s') : wpAny (model prog w) A (eval (.Constant (.int i) k pos) env) Q E s := wpAny_Constant_int (h _ _ lw)
theorem l_range2 (lw : Lw og h₀ L l news s.heap (s.os, s.drawn) s.gens) (h : ∀ r s' t₁ u₁ v₁, IsRange s'.heap r a b 1 t₁ u₁ v₁ → Lw og h₀ L l news s'.heap (s'.os, s'.drawn) s'.gens → Q (.ref r) s') : wpAny (model prog w) A (call (.type "range") [.int a t, .int b u]) Q E s :=
  range2_rows lw.F lw.N fun h' tk t₁ u₁ v₁ R F N _ => h _ _ _ _ _ R ⟨F, N, lw.O⟩
theorem l_range3 {c : Int} {v : Tok} (lw : Lw og h₀ L l news s.heap (s.os, s.drawn) s.gens) (hc : c ≠ 0) (hp : Builtin.divisionGoesByPylong (b - a) c = false) (h : ∀ r s' t₁ u₁ v₁, IsRange s'.heap r a b c t₁ u₁ v₁ → Lw og h₀ L l news s'.heap (s'.os, s'.drawn) s'.gens → Q (.ref r) s') : wpAny (model prog w) A (call (.type "range") [.int a t, .int b u, .int c v]) Q E s :=
  range3_rows lw.F lw.N hc (fun h' tk t₁ u₁ v₁ R F N _ => h _ _ _ _ _ R ⟨F, N, lw.O⟩) (.inl hp)
theorem l_newList {vs : List Value} (lw : Lw og h₀ L l news s.heap (s.os, s.drawn) s.gens) (hz : vs.length ≤ sizeLine) (h : ∀ D s', (∀ p ∈ news, p.1 < D) → Lw og h₀ L l ((D, listOf vs.toArray 0) :: news) s'.heap (s'.os, s'.drawn) s'.gens → Q (.ref D) s') : wpAny (model prog w) A (newList vs) Q E s :=
  newList_K lw.F lw.N (fun D h' F N lt => h D _ lt ⟨F, N, lw.O⟩) hz
theorem l_newTuple {vs : List Value} (lw : Lw og h₀ L l news s.heap (s.os, s.drawn) s.gens) (hz : vs.length ≤ sizeLine) (h : ∀ D s', (∀ p ∈ news, p.1 < D) → Lw og h₀ L l ((D, ({ cls := .type "tuple", data := .seq vs.toArray } : Obj)) :: news) s'.heap (s'.os, s'.drawn) s'.gens → Q (.ref D) s') : wpAny (model prog w) A (newTuple vs) Q E s :=
  kup_newTuple lw.F lw.N (fun D h' F N lt => h D _ lt ⟨F, N, lw.O⟩) hz
theorem l_rep {D : Addr} {vs : List Value} {ns : List Int} {c : Nat} {x : Int} (lw : Lw og h₀ L l news s.heap (s.os, s.drawn) s.gens) (hm : (D, listOf vs.toArray c) ∈ news) (hi : IntsAre vs ns) (h0 : 0 ≤ x) (h1 : x ≤ 1000) (hz : vs.length ≤ 1000)
    (h : ∀ D s' ws, (∀ p ∈ news, p.1 < D) → Lw og h₀ L l ((D, listOf (List.toArray ws) 0) :: news) s'.heap (s'.os, s'.drawn) s'.gens → IntsAre ws (List.replicate x.toNat ns).flatten → Q (.ref D) s') : wpAny (model prog w) A (binaryOp .Mult (.ref D) (.int x u)) Q E s :=
  KM.mul lw.F lw.N (PySem.IsL.isList (n := c) (lw.N _ hm).1) hi (by omega) (by omega) (Nat.le_trans (Nat.mul_le_mul hz (show x.toNat ≤ 1000 by omega)) (by decide)) fun D h' F N lt hi' _ _ _ _ _ => h D _ _ lt ⟨F, N, lw.O⟩ hi'
theorem l_len {D : Addr} {vs : List Value} {c : Nat} (lw : Lw og h₀ L l news s.heap (s.os, s.drawn) s.gens) (hm : (D, listOf vs.toArray c) ∈ news) (hz : vs.length ≤ 1000) (h : ∀ t s', Lw og h₀ L l news s'.heap (s'.os, s'.drawn) s'.gens → Q (.int vs.length t) s') : wpAny (model prog w) A (call (.builtin "len") [.ref D]) Q E s :=
  len_list (PySem.IsL.isList (n := c) (lw.N _ hm).1) (by rw [List.size_toArray]; omega) (by rw [List.size_toArray]; exact h _ _ lw)
theorem l_item {value slice : PySem.Expr} {D : Addr} {vs : List Value} {ns : List Int} {c : Nat} {k : Int} (lw : Lw og h₀ L l news s.heap (s.os, s.drawn) s.gens) (hm : (D, listOf vs.toArray c) ∈ news) (hi : IntsAre vs ns) (h0 : 0 ≤ k) (h1 : k < ns.length) (hfit : k < 2 ^ 63) (h : ∀ t, Q (.int (ns.getD k.toNat 0) t) s)
    (hs : subscripted slice false (.ref D) (.int k u) = operate [.ref D, .int k u] (getItem (.ref D) (.int k u)) := by with_unfolding_all rfl) :
    wpAny (model prog w) A (subscriptTail value slice (.ref D) (.int k u)) Q E s := ksa_sub lw.N hm hi h0 h1 hfit h hs
theorem l_script {value slice : PySem.Expr} {D : Addr} {vs : List Value} {ns : List Int} {k : Int} (lw : Lw og h₀ L l news s.heap (s.os, s.drawn) s.gens) (hl : h₀.IsList D vs.toArray) (hi : IntsAre vs ns) (h0 : 0 ≤ k) (h1 : k < ns.length) (hfit : k < 2 ^ 63) (h : ∀ t, Q (.int (ns.getD k.toNat 0) t) s)
    (hs : subscripted slice false (.ref D) (.int k u) = operate [.ref D, .int k u] (getItem (.ref D) (.int k u)) := by with_unfolding_all rfl) :
    wpAny (model prog w) A (subscriptTail value slice (.ref D) (.int k u)) Q E s := item_anyK (hl.at fun o e => lw.F.keep _ o e) hi h0 h1 hfit h hs
theorem l_set {D : Addr} {vs : List Value} {ns : List Int} {c : Nat} {k x : Int} {Q : Unit → Shared → Prop} (lw : Lw og h₀ L l ((D, listOf vs.toArray c) :: r) s.heap (s.os, s.drawn) s.gens) (hr : ∀ p ∈ r, p.1 ≠ D) (hi : IntsAre vs ns) (h0 : 0 ≤ k) (h1 : k < ns.length) (hfit : k < 2 ^ 63)
    (h : ∀ s' ws, Lw og h₀ L l ((D, listOf (List.toArray ws) c) :: r) s'.heap (s'.os, s'.drawn) s'.gens → IntsAre ws (ns.set k.toNat x) → Q () s') : wpAny (model prog w) A (setItem (.ref D) (.int k t) (.int x u)) Q E s :=
  ksa_set lw.F lw.N (.head hr) hi h0 h1 hfit fun h' F N hi' _ _ => h _ _ ⟨F, N, lw.O⟩ hi'
theorem l_upto {value slice : PySem.Expr} {D : Addr} {vs : List Value} {ns : List Int} {vu : Tok} {y : Int} (lw : Lw og h₀ L l news s.heap (s.os, s.drawn) s.gens) (hl : s.heap.IsList D vs.toArray) (hi : IntsAre vs ns) (h0 : 0 ≤ y) (hz : vs.length ≤ 1000)
    (h : ∀ D s' ws, (∀ p ∈ news, p.1 < D) → Lw og h₀ L l ((D, listOf (List.toArray ws) 0) :: news) s'.heap (s'.os, s'.drawn) s'.gens → IntsAre ws (ns.take y.toNat) → Q (.ref D) s')
    (hs : subscripted slice false (.ref D) (.ref s.heap.objs.size) = operate [.ref s.heap.objs.size, .ref D] (getItem (.ref D) (.ref s.heap.objs.size))) (ht : ∀ r, letTemporaryGo value (.ref D) r = pure ()) :
    wpAny (model prog w) A (subscriptTail value slice (.ref D) (.ref s.heap.objs.size)) Q E { s with heap := s.heap.push { cls := .type "slice", data := .fields #[.none, .int y vu, .none] } } :=
  kmk_slice_ints lw.F lw.N hl .none (.int y vu) hi (kmk_upto hi h0) rfl (fun D ws h' F N lt hi' _ _ => h D _ ws lt ⟨F, N, lw.O⟩ hi') hs ht (by rw [List.size_toArray]; exact Nat.le_trans hz (by decide))
theorem pick_all {vs : List Value} : (slicePick vs.toArray none none none).toList = vs := by
  have e : sliceBounds none none none vs.toArray.size = (((0 : Nat) : Int), ((vs.toArray.size : Nat) : Int), 1) := by
    simp [sliceBounds]
  rw [kmk_pick_nat _ e]
  simp
theorem l_copy {value slice : PySem.Expr} {D : Addr} {vs : List Value} (lw : Lw og h₀ L l news s.heap (s.os, s.drawn) s.gens) (hl : s.heap.IsList D vs.toArray) (hz : vs.length ≤ 1000)
    (h : ∀ D s', (∀ p ∈ news, p.1 < D) → Lw og h₀ L l ((D, listOf vs.toArray 0) :: news) s'.heap (s'.os, s'.drawn) s'.gens → Q (.ref D) s')
    (hs : subscripted slice false (.ref D) (.ref s.heap.objs.size) = operate [.ref s.heap.objs.size, .ref D] (getItem (.ref D) (.ref s.heap.objs.size))) (ht : ∀ r, letTemporaryGo value (.ref D) r = pure ()) :
    wpAny (model prog w) A (subscriptTail value slice (.ref D) (.ref s.heap.objs.size)) Q E { s with heap := s.heap.push { cls := .type "slice", data := .fields #[.none, .none, .none] } } :=
  kmk_slice_lit lw.F lw.N hl .none .none pick_all (fun D h' F N lt => h D _ lt ⟨F, N, lw.O⟩) hs ht (by rw [List.size_toArray]; exact Nat.le_trans hz (by decide))
theorem l_in {D : Addr} {its : Array Value} {c : Nat} {k : Int} {b : Bool} (lw : Lw og h₀ L l news s.heap (s.os, s.drawn) s.gens) (hm : (D, listOf its c) ∈ news) (hi : kf_ints its.toList = true) (e : its.toList.any (isInt k) = b) (h : Q (.bool b) s) : wpAny (model prog w) A (compareOp .In (.int k t) (.ref D)) Q E s := kf_in lw.N hm hi e h
theorem l_appm {D : Addr} {its : Array Value} {c : Nat} {pl : Sem Bool} {Q : Value × List Value → Shared → Prop} (lw : Lw og h₀ L l news s.heap (s.os, s.drawn) s.gens) (hm : (D, listOf its c) ∈ news) (h : Q (.builtin "list.append", [.ref D]) s) : wpAny (model prog w) A (getMethod (.ref D) (Str.ofString "append") pl) Q E s :=
  listMethod_K lw.N hm PySem.F.slot_list_append PySem.F.type_list_append h
theorem l_append {D : Addr} {vs : List Value} {c : Nat} {x : Value} (lw : Lw og h₀ L l ((D, listOf vs.toArray c) :: r) s.heap (s.os, s.drawn) s.gens) (hr : ∀ p ∈ r, p.1 ≠ D) (hz : vs.length ≤ 1000)
    (h : ∀ s', Lw og h₀ L l ((D, listOf (vs ++ [x]).toArray (c + 1)) :: r) s'.heap (s'.os, s'.drawn) s'.gens → Q .none s') : wpAny (model prog w) A (call (.builtin "list.append") [.ref D, x]) Q E s :=
  append_K lw.F lw.N (.head hr) (fun h' F N => h _ ⟨F, by simpa using N, lw.O⟩) (by rw [List.size_toArray]; exact Nat.le_trans hz (by decide))
theorem l_pair {e1 e2 : PySem.Expr} {env : Env} {k : Nat} {T : Addr} {v1 v2 : Value} {c : Nat} {Q : Unit → Shared → Prop} (hh : A.handled = none) (lw : Lw og h₀ L l news s.heap (s.os, s.drawn) s.gens) (hm : (T, ({ cls := .type "tuple", data := .seq [v1, v2].toArray c } : Obj)) ∈ news)
    (he : (assignEach [e1, e2] env).map (·.2) = [assign e1 env, assign e2 env]) (hst : (assignEach [e1, e2] env).findIdx? (·.1) = none) (hl : (assignEach [e1, e2] env).length = 2)
    (h : ∀ s', Lw og h₀ L l news s'.heap (s'.os, s'.drawn) s'.gens → wpAny (model prog w) A (assign e1 env v1) (fun _ s₁ => wpAny (model prog w) A (assign e2 env v2) (fun _ s₂ => Q () s₂) E s₁) E s') : wpAny (model prog w) A (assign (.Tuple [e1, e2] k pos) env (.ref T)) Q E s := by
  refine assign_Tuple_tuple (items := [v1, v2].toArray) hh ⟨_, (lw.N _ hm).1, rfl, c, rfl⟩ (by rw [hl]; rfl) hst fun h' he' => ?_
  rw [he]
  exact assignInOrder_cons (wpAny_mono (h { s with heap := h' } (lw.extBut he')) (fun _ s₁ h₁ => assignInOrder_cons (wpAny_mono h₁ (fun _ s₂ h₂ => assignInOrder_nil h₂) fun _ _ e => e)) fun _ _ e => e)
/-- the built-in names that the law uses, and the class -/
theorem l_glob {x : Str} {v : Value} (X : K.In h₀) (T : ∃ p loose mean mg mb, Top p loose mean mg mb h₀) (lw : Lw og h₀ L l news s.heap (s.os, s.drawn) s.gens) (e : nsIn K mainGlobals x = some none) (hv : bootBuiltins x = some v) (hn : x ≠ "__name__") (h : Q v s)
    (hk : sc.kind = .function := by kernel_rfl) (hx : (envOf q sc L f cd).kindOf x = some .globalImplicit := by kernel_rfl) (hd : (x == ("__debug__" : Str)) = false := by kernel_rfl) :
    wpAny (model prog w) A (eval (.Name x pos) (envOf q sc L f cd)) Q E s := by
  obtain ⟨p, loose, mean, mg, mb, T⟩ := T
  exact Name_function_global hk hx (loadGlobal_builtin (env := envOf q sc L f cd) (T.g.keeps lw.F.keep) (mg_none_of X T.g e) (T.b.keeps lw.F.keep) ((T.builtins x hn).trans hv) h) hd
theorem l_globK {x : Str} {v : Value} (X : K.In h₀) (T : ∃ p loose mean mg mb, Top p loose mean mg mb h₀) (lw : Lw og h₀ L l news s.heap (s.os, s.drawn) s.gens) (e : nsIn K mainGlobals x = some (some v)) (h : Q v s)
    (hk : sc.kind = .function := by kernel_rfl) (hx : (envOf q sc L f cd).kindOf x = some .globalImplicit := by kernel_rfl) (hd : (x == ("__debug__" : Str)) = false := by kernel_rfl) :
    wpAny (model prog w) A (eval (.Name x pos) (envOf q sc L f cd)) Q E s := by
  obtain ⟨p, loose, mean, mg, mb, T⟩ := T
  exact Name_function_global hk hx (loadGlobal_global (env := envOf q sc L f cd) (T.g.keeps lw.F.keep) (mg_of X T.g e) h) hd
end
local macro_rules | `(tactic| walk_at "asm") => `(tactic| with_reducible assumption)
local macro_rules | `(tactic| walk_at "at") => `(tactic| first | with_reducible exact At.here | with_reducible assumption | ((with_reducible refine' At.there ?ate ?atr); (case ate => kernel_rfl); (case atr => walk_at "at")))
local macro_rules | `(tactic| walk_at "om") => `(tactic| ((try dsimp only); omega))
local macro_rules | `(tactic| walk_at "lw") => `(tactic| first
  | (with_reducible refine wpAny_execs_cons ?_)
  | (with_reducible refine wpAny_execs_nil ?_)
  | (with_reducible refine wpAny_assign_Name ?_)
  | (with_reducible refine wpAny_BinOp ?_)
  | ((with_reducible refine' l_loc ?okk ?att ?_); (case okk => walk_at "asm"); (case att => walk_at "at"))
  | (with_reducible refine l_int (by walk_at "asm") ?_; intro _ _ _)
  | (with_reducible refine l_add (by walk_at "asm") ?_; intro _ _ _)
  | (with_reducible refine l_sub (by walk_at "asm") ?_; intro _ _ _)
  | (with_reducible refine l_iadd (by walk_at "asm") ?_; intro _ _ _)
  | ((with_reducible refine' l_mod ?okk ?ne ?_); (case okk => walk_at "asm"); (case ne => decide); intro _ _ _)
  | (with_reducible refine wpAny_Assign_Name ?_ (by kernel_rfl))
  | (with_reducible refine wpAny_Assign_Subscript ?_ (by kernel_rfl))
  | (with_reducible refine wpAny_AugAssign_Name ?_)
  | ((with_reducible refine' l_ldn ?okk ?att ?_); (case okk => walk_at "asm"); (case att => walk_at "at"))
  | (with_reducible refine l_sto (by walk_at "asm") ?_; intro _ _)
  | (with_reducible refine wpAny_If ?_)
  | (with_reducible refine wpAny_isTrue_Compare1 ?_ (by kernel_rfl))
  | (with_reducible refine isTrue_plain ?_ (by kernel_rfl))
  | (with_reducible refine Subscript_ ?_)
  | (with_reducible refine List_ ?_)
  | (with_reducible refine Tuple_ ?_)
  | (with_reducible refine spliced_more ?_ (by kernel_rfl))
  | (with_reducible refine spliced_none ?_)
  | (with_reducible refine wpAny_Slice ?_)
  | (with_reducible refine evalPart_none_step ?_)
  | (with_reducible refine evalPart_some_step ?_)
  | (with_reducible refine PyProof.Rows.eq_int ?_)
  | (with_reducible refine PyProof.Rows.gt_int ?_)
  | (with_reducible refine wpAny_truthy_bool ?_)
  | (with_reducible refine ite_tt ?_)
  | (with_reducible refine ite_ff ?_)
  | (with_reducible refine wpAny_Pass ?_))
noncomputable def forBody (p : Program) (k : Nat) : List Stmt := match nthS k (lawD p).body with
  | .For _ _ b _ _ => b
  | _ => []
noncomputable def forTgt (p : Program) (k : Nat) : PySem.Expr := match nthS k (lawD p).body with
  | .For t _ _ _ _ => t
  | _ => .Name (s8 []) zpos
section
variable {og o9 : OsState × Drawn} {g9 : Array GenState} {prog : Program} {w : World} {A : Around} {h₀ : Heap} {L f : Addr} {s : Shared} {l : List (Str × Value)} {news own r0 : List (Addr × Obj)} {q : Str} {cd : Value} {M : Addr} {vs : List Value} {ns : List Int} {c : Nat} {k : Int} {t : Tok} {K : Frag} {n : Nat}
theorem turn1 (lw : Lw og h₀ L l ((M, listOf vs.toArray c) :: r0) s.heap (s.os, s.drawn) s.gens) (hM : ∀ p ∈ r0, p.1 ≠ M) (am : At l (Str.ofString "memory") (.ref M)) (hi : IntsAre vs ns) (hl : ns.length = 768) (h0 : 0 ≤ k) (h1 : k < 256) :
    wpAny (model prog w) A (assign (forTgt pw 1) (envOf q (lawD pw).scope L f cd) (.int k t)) (fun _ s₂ => wpAny (model prog w) A (execs (forBody pw 1) (envOf q (lawD pw).scope L f cd))
      (fun fl s₃ => fl = .next ∧ ∃ ws, Lw og h₀ L ((Str.ofString "place", .int k t) :: l) ((M, listOf (List.toArray ws) c) :: r0) s₃.heap (s₃.os, s₃.drawn) s₃.gens ∧ IntsAre ws (ns.set k.toNat ((7 * k + 3).fmod 256))) (fun _ _ => False) s₂) (fun _ _ => False) s := by
  refine wpAny_assign_Name ?_
  repeat' (walk_at "lw")
  refine wpAny_execs_cons ?_
  repeat' (walk_at "lw")
  refine l_mul7 (by walk_at "asm") (by mul_fits) ?_
  intro _ _ _
  repeat' (walk_at "lw")
  refine l_set (by walk_at "asm") hM hi h0 (by omega) (by omega) ?_
  intro s' ws lw' hi'
  repeat' (walk_at "lw")
  exact ⟨rfl, ws, lw', hi'⟩
end
abbrev tup2 (k v : Int) (t u : Tok) : Obj := { cls := .type "tuple", data := .seq [Value.int k t, Value.int v u].toArray }
section
variable {og o9 : OsState × Drawn} {g9 : Array GenState} {prog : Program} {w : World} {A : Around} {h₀ : Heap} {L f : Addr} {s : Shared} {l : List (Str × Value)} {news own r0 : List (Addr × Obj)} {q : Str} {cd : Value} {D a : Addr} {vs sv : List Value} {ns : List Int} {c : Nat} {k : Int} {t : Tok} {K : Frag} {n : Nat}
theorem l_mapp {E : Value → Shared → Prop} {Q : Value → Shared → Prop} {sc : Scope} {its : Array Value} {e : PySem.Expr} {es : List PySem.Expr} {sn : Str} {p1 apos pos : Pos} (lw : Lw og h₀ L l news s.heap (s.os, s.drawn) s.gens) (hx : At l sn (.ref D)) (hmm : (D, listOf its c) ∈ news)
    (h : wpAny (model prog w) A (spliced (backTo pos (starEach (e :: es) (envOf q sc L f cd)))) (fun vs s₁ => wpAny (model prog w) A (call (.builtin "list.append") ([.ref D] ++ vs)) Q E s₁) E s)
    (hk : sc.kind = .function := by kernel_rfl) (hll : (envOf q sc L f cd).kindOf sn = some .local := by kernel_rfl) (hd : (sn == ("__debug__" : Str)) = false := by kernel_rfl)
    (he : starEach (e :: es) (envOf q sc L f cd) = (false, eval e (envOf q sc L f cd)) :: starEach es (envOf q sc L f cd) := by kernel_rfl) (hplain : (backTo pos (starEach es (envOf q sc L f cd))).any (·.1) = false := by kernel_rfl)
    (hm : eval (.Call (.Attribute (.Name sn p1) (Str.ofString "append") apos) (e :: es) [] pos) (envOf q sc L f cd) = (do
      let ov ← eval (.Name sn p1) (envOf q sc L f cd)
      standAt apos.atName
      let (f', first) ← holding [ov] (getMethod ov (Str.ofString "append") (plOf sn p1 (envOf q sc L f cd)))
      callWith pos f' first (backTo pos (starEach (e :: es) (envOf q sc L f cd))) (backToKw pos (keywordEach [] (envOf q sc L f cd)))) := by kernel_rfl) :
    wpAny (model prog w) A (eval (.Call (.Attribute (.Name sn p1) (Str.ofString "append") apos) (e :: es) [] pos) (envOf q sc L f cd)) Q E s :=
  methodCall_KW (pl := plOf sn p1 (envOf q sc L f cd)) (l_loc lw hx (l_appm lw hmm (callWith_method1 h he hplain)) hk hll hd) hm
theorem turn3 (lw : Lw og h₀ L l ((D, listOf vs.toArray c) :: r0) s.heap (s.os, s.drawn) s.gens) (hD : ∀ p ∈ r0, p.1 ≠ D) (ac : At l (Str.ofString "codes") (.ref D)) (as : At l (Str.ofString "script") (.ref a)) (hl : h₀.IsList a sv.toArray) (hi : IntsAre sv ns) (hz : vs.length ≤ 1000) (h0 : 0 ≤ k) (h1 : k + 1 < ns.length) (h2 : ns.length ≤ 63) :
    wpAny (model prog w) A (assign (forTgt pw 3) (envOf q (lawD pw).scope L f cd) (.int k t)) (fun _ s₂ => wpAny (model prog w) A (execs (forBody pw 3) (envOf q (lawD pw).scope L f cd))
      (fun fl s₃ => fl = .next ∧ ∃ T t1 t2 l', (∀ p ∈ r0, p.1 < T) ∧ D < T ∧ (∀ nm v, (nm == Str.ofString "place") = false → (nm == Str.ofString "kind") = false → (nm == Str.ofString "value") = false → At l nm v → At l' nm v) ∧
        Lw og h₀ L l' ((D, listOf (vs ++ [Value.ref T]).toArray (c + 1)) :: (T, tup2 ((ns.getD k.toNat 0).fmod 16) ((ns.getD (k + 1).toNat 0).fmod 256) t1 t2) :: r0) s₃.heap (s₃.os, s₃.drawn) s₃.gens) (fun _ _ => False) s₂) (fun _ _ => False) s := by
  refine wpAny_assign_Name ?_
  repeat' (walk_at "lw")
  refine wpAny_execs_cons ?_
  repeat' (walk_at "lw")
  refine l_script (by walk_at "asm") hl hi h0 (by omega) (by omega) ?_ (by kernel_rfl)
  intro _
  repeat' (walk_at "lw")
  refine l_script (by walk_at "asm") hl hi (by omega) (by omega) (by omega) ?_ (by kernel_rfl)
  intro _
  repeat' (walk_at "lw")
  refine wpAny_Expr_any ?_ (by kernel_rfl) (by kernel_rfl)
  refine l_mapp (by walk_at "asm") (by walk_at "at") (.head _) ?_
  repeat' (walk_at "lw")
  refine l_newTuple (by walk_at "asm") (Nat.le_of_ble_eq_true rfl) ?_
  intro T s' lt lw'
  repeat' (walk_at "lw")
  dsimp only [List.cons_append, List.nil_append]
  have lw2 := Lw.sub (news' := (D, listOf vs.toArray c) :: (T, _) :: r0) lw' (fun p hp => by
    rcases List.mem_cons.mp hp with rfl | hp
    · exact .tail _ (.head _)
    · rcases List.mem_cons.mp hp with rfl | hp
      · exact .head _
      · exact .tail _ (.tail _ hp))
  have hT : D < T := lt (D, _) (.head _)
  refine l_append lw2 (fun p hp => ?_) hz ?_
  · rcases List.mem_cons.mp hp with rfl | hp
    · exact Nat.ne_of_gt hT
    · exact hD p hp
  intro s'' lw3
  repeat' (walk_at "lw")
  refine ⟨rfl, T, _, _, _, fun p hp => lt p (.tail _ hp), hT, ?_, lw3⟩
  intro nm v e1 e2 e3 h
  exact At.there e3 (At.there e2 (At.there e1 h))
end
def opsL : List Int := [169, 162, 160, 105, 233, 201, 133, 165, 230, 10, 74, 42, 170, 72, 104, 56]
def opOf (k : Int) : Int := opsL.getD k.toNat 0
def lay1 (ns : List Int) (p k v : Int) : List Int := bif decide (k ≤ 8) then (ns.set p.toNat (opOf k)).set (p + 1).toNat v else ns.set p.toNat (opOf k)
def wid (k : Int) : Int := bif decide (k ≤ 8) then 2 else 1
theorem any_ints {ws : List Value} {ns : List Int} (h : IntsAre ws ns) (k : Int) : ws.any (isInt k) = ns.any (· == k) := by
  induction h with
  | nil => rfl
  | cons _ _ _ ih => simp only [List.any_cons, ih, isInt]
theorem kf_of {ws : List Value} {ns : List Int} (h : IntsAre ws ns) : kf_ints ws = true := by
  induction h with
  | nil => rfl
  | cons _ _ _ ih => simpa [kf_ints] using ih
theorem wide_any (k : Int) (h0 : 0 ≤ k) : ([0, 1, 2, 3, 4, 5, 6, 7, 8] : List Int).any (· == k) = decide (k ≤ 8) := by
  rw [Bool.eq_iff_iff]
  simp
  omega
section
variable {og o9 : OsState × Drawn} {g9 : Array GenState} {prog : Program} {w : World} {A : Around} {h₀ : Heap} {L f : Addr} {s : Shared} {l : List (Str × Value)} {news own r0 : List (Addr × Obj)} {q : Str} {cd : Value} {M W T : Addr} {vs wv : List Value} {ns : List Int} {c cw : Nat} {k v p : Int} {t u tp : Tok} {K : Frag} {n : Nat}
theorem turn6 (hh : A.handled = none) (lw : Lw og h₀ L l ((M, listOf vs.toArray c) :: r0) s.heap (s.os, s.drawn) s.gens) (hM : ∀ p ∈ r0, p.1 ≠ M) (am : At l (Str.ofString "memory") (.ref M)) (aw : At l (Str.ofString "wide") (.ref W)) (aa : At l (Str.ofString "at") (.int p tp)) (hT : (T, tup2 k v t u) ∈ r0) (hW : (W, listOf wv.toArray cw) ∈ r0)
    (hwi : IntsAre wv [0, 1, 2, 3, 4, 5, 6, 7, 8]) (hi : IntsAre vs ns) (hl : ns.length = 768) (k0 : 0 ≤ k) (k1 : k < 16) (p0 : 0 ≤ p) (p1 : p + 1 < 768) :
    wpAny (model prog w) A (assign (forTgt pw 6) (envOf q (lawD pw).scope L f cd) (.ref T)) (fun _ s₂ => wpAny (model prog w) A (execs (forBody pw 6) (envOf q (lawD pw).scope L f cd))
      (fun fl s₃ => fl = .next ∧ ∃ ws l' t', (∀ nm v, (nm == Str.ofString "at") = false → (nm == Str.ofString "kind") = false → (nm == Str.ofString "value") = false → At l nm v → At l' nm v) ∧ At l' (Str.ofString "at") (.int (p + wid k) t') ∧
        Lw og h₀ L l' ((M, listOf (List.toArray ws) c) :: r0) s₃.heap (s₃.os, s₃.drawn) s₃.gens ∧ IntsAre ws (lay1 ns p k v)) (fun _ _ => False) s₂) (fun _ _ => False) s := by
  refine l_pair hh lw (.tail _ hT) (by kernel_rfl) (by kernel_rfl) (by kernel_rfl) ?_
  intro _ _
  repeat' (walk_at "lw")
  refine wpAny_execs_cons ?_
  repeat' (walk_at "lw")
  refine l_newList (by walk_at "asm") (Nat.le_of_ble_eq_true rfl) ?_
  intro D s' lt lw'
  repeat' (walk_at "lw")
  refine l_item (ns := opsL) (by walk_at "asm") (.head _) (by repeat constructor) k0 (by show k < 16; omega) (by omega) ?_ (by kernel_rfl)
  intro _
  repeat' (walk_at "lw")
  refine l_set (lw'.sub fun p hp => .tail _ hp) hM hi p0 (by omega) (by omega) ?_
  intro s'' ws lw2 hi2
  repeat' (walk_at "lw")
  refine l_in (by walk_at "asm") (.tail _ hW) (kf_of hwi) (b := decide (k ≤ 8)) ((any_ints hwi k).trans (wide_any k k0)) ?_
  repeat' (walk_at "lw")
  refine split_bool ?_ ?_ <;> intro hb
  · refine wpAny_execs_cons ?_
    repeat' (walk_at "lw")
    refine l_set (by walk_at "asm") hM hi2 (by omega) (by rw [List.length_set]; omega) (by omega) ?_
    intro s3 ws3 lw3 hi3
    repeat' (walk_at "lw")
    have e9 : p + wid k = p + 1 + 1 := by rw [wid, hb]; simp; omega
    rw [e9]
    refine ⟨rfl, ws3, _, ?t9, ?h1, ?h2, by walk_at "asm", ?h3⟩
    case h2 => exact At.here
    case h1 =>
      intro nm v e1 e2 e3 h
      exact At.there e1 (At.there e1 (At.there e3 (At.there e2 h)))
    case h3 =>
      rw [lay1, hb]
      exact hi3
  · repeat' (walk_at "lw")
    have e9 : p + wid k = p + 1 := by rw [wid, hb]; simp
    rw [e9]
    refine ⟨rfl, ws, _, ?t8, ?g1, ?g2, by walk_at "asm", ?g3⟩
    case g2 => exact At.here
    case g1 =>
      intro nm v e1 e2 e3 h
      exact At.there e1 (At.there e3 (At.there e2 h))
    case g3 =>
      rw [lay1, hb]
      exact hi2
end
/-- the machine while it is being made: its first j attributes -/
structure Io (og : OsState × Drawn) (w : World) (x d : Addr) (rest : List (Addr × Obj)) (h₀ : Heap) (L : Addr) (l : List (Str × Value)) (j : Nat) (v : AV) (h : Heap) (o : OsState × Drawn) (g : Array GenState) : Prop where
  F : Fr h₀ L h (Lk l)
  N : ∃ k n, News h₀ L h ((x, instObj Cc d) :: (d, dictOf ((ents w k v).take j) n) :: rest)
  O : o = og ∧ g = #[]
structure Iap (x d : Addr) (rest : List (Addr × Obj)) : Prop where
  xd : x ≠ d
  rd : ∀ p ∈ rest, p.1 ≠ d
section
variable {og o9 : OsState × Drawn} {g9 : Array GenState} {K : Frag} {n : Nat} {A : Around} {env : Env} {h₀ : Heap} {L x d f : Addr} {rest : List (Addr × Obj)} {l : List (Str × Value)} {j j' : Nat} {v : AV} {s : Shared} {w : World} {prog : Program} {E : Value → Shared → Prop} {q : Str} {sc : Scope} {cd : Value} {nm : Str} {pos : Pos} {a b : Int} {t u : Tok} {Q : Value → Shared → Prop}
theorem o_loc {y : Value} (io : Io og w x d rest h₀ L l j v s.heap (s.os, s.drawn) s.gens) (hm : At l nm y) (h : Q y s) (hk : sc.kind = .function := by kernel_rfl) (hl : (envOf q sc L f cd).kindOf nm = some .local := by kernel_rfl)
    (hd : (nm == ("__debug__" : Str)) = false := by kernel_rfl) : wpAny (model prog w) A (eval (.Name nm pos) (envOf q sc L f cd)) Q E s := ld io.F hm.look h hk hl hd
theorem o_int {i : Int} {k : Nat} (io : Io og w x d rest h₀ L l j v s.heap (s.os, s.drawn) s.gens) (h : ∀ t s', Io og w x d rest h₀ L l j v s'.heap (s'.os, s'.drawn) s'.gens → Q (.int i t) s') : wpAny (model prog w) A (eval (.Constant (.int i) k pos) env) Q E s := wpAny_Constant_int (h _ _ io)
theorem o_sub (io : Io og w x d rest h₀ L l j v s.heap (s.os, s.drawn) s.gens) (h : ∀ t s', Io og w x d rest h₀ L l j v s'.heap (s'.os, s'.drawn) s'.gens → Q (.int (a - b) t) s') : wpAny (model prog w) A (binaryOp .Sub (.int a t) (.int b u)) Q E s := PyProof.Rows.sub_int (h _ _ io)
theorem o_or (io : Io og w x d rest h₀ L l j v s.heap (s.os, s.drawn) s.gens) (h : ∀ t s', Io og w x d rest h₀ L l j v s'.heap (s'.os, s'.drawn) s'.gens → Q (.int (Builtin.bitOr a b) t) s') : wpAny (model prog w) A (binaryOp .BitOr (.int a t) (.int b u)) Q E s := or_int (h _ _ io)
theorem o_shl (io : Io og w x d rest h₀ L l j v s.heap (s.os, s.drawn) s.gens) (hb : 0 ≤ b) (hb2 : b ≤ 1000) (ha : a.natAbs < 1000) (h : ∀ t s', Io og w x d rest h₀ L l j v s'.heap (s'.os, s'.drawn) s'.gens → Q (.int (a * 2 ^ b.toNat) t) s') : wpAny (model prog w) A (binaryOp .LShift (.int a t) (.int b u)) Q E s :=
  lshift_int_small hb (by omega) (by omega) (h _ _ io)
theorem Io.inst {h : Heap} (io : Io og w x d rest h₀ L l j v h o9 g9) : ∃ k n, InstAt h x (instObj Cc d) Cc (some (dictOf ((ents w k v).take j) n)) := by
  obtain ⟨k, n, N⟩ := io.N
  exact ⟨k, n, InstAt.of_news N (.head _) (.tail _ (.head _))⟩
theorem i_own {y : Value} (kf : KF K) (X : K.In h₀) (io : Io og w x d rest h₀ L l j v s.heap (s.os, s.drawn) s.gens) (hf : findIn K (.ref Cc) nm = some none) (hl : ∀ k, getL nm ((ents w k v).take j) = some (some y)) (hh : handedIn y = true)
    (h : ∀ s', Io og w x d rest h₀ L l j v s'.heap (s'.os, s'.drawn) s'.gens → Q y s') : wpAny (model prog w) A (getAttr (.ref x) nm true) Q E s := by
  obtain ⟨k, n, N⟩ := io.N
  exact get_own io.F X (InstAt.of_news N (.head _) (.tail _ (.head _))) (kf.pg nm) kf.dict hf rfl (hl k) hh (h _ ⟨io.F, ⟨k, n, N⟩, io.O⟩)
theorem i_cls {y : Value} (kf : KF K) (X : K.In h₀) (io : Io og w x d rest h₀ L l j v s.heap (s.os, s.drawn) s.gens) (hf : findIn K (.ref Cc) nm = some (some y)) (hg : specialIn K y "__get__" = some none) (hh : handedIn y = true) (hc : copiedNames.contains nm = false) (hl : ∀ k, getL nm ((ents w k v).take j) = some none)
    (h : ∀ s', Io og w x d rest h₀ L l j v s'.heap (s'.os, s'.drawn) s'.gens → Q y s') : wpAny (model prog w) A (getAttr (.ref x) nm true) Q E s := by
  obtain ⟨k, n, N⟩ := io.N
  exact get_cls io.F X (InstAt.of_news N (.head _) (.tail _ (.head _))) (kf.pg nm) kf.dict hf hg hh hc (hl k) (h _ ⟨io.F, ⟨k, n, N⟩, io.O⟩)
theorem i_set {val : Value} {Q : Unit → Shared → Prop} (upd : AV → Value → AV) (kf : KF K) (X : K.In h₀) (ap : Iap x d rest) (io : Io og w x d rest h₀ L l j v s.heap (s.os, s.drawn) s.gens) (ht : takerIn K Cc nm = some none)
    (hp : ∀ k t, ∃ k', putL nm (PyData.keyHash w.params nm) (.str nm t) val ((ents w k v).take j) = (ents w k' (upd v val)).take j') (hg : ∀ k, (getL nm ((ents w k v).take j)).isSome = true)
    (h : ∀ s', Io og w x d rest h₀ L l j' (upd v val) s'.heap (s'.os, s'.drawn) s'.gens → Q () s') : wpAny (model prog w) A (setAttr (.ref x) nm val) Q E s := by
  obtain ⟨k, n, N⟩ := io.N
  obtain ⟨k', e⟩ := hp k (s.toks + 1)
  refine set_dict io.F X N (InstAt.of_news N (.head _) (.tail _ (.head _))) rfl kf.setA kf.over ht kf.dict (hg k) (Prod.ext e rfl) (.tail ap.xd (.head ap.rd)) ?_ fun h' F' N' => h _ ⟨F', ⟨k', _, N'⟩, io.O⟩
  have e16 : (ents w k' (upd v val)).length = 16 := rfl
  rw [List.length_take, e16]
  omega
theorem is_name {val : Value} {Q : Unit → Shared → Prop} (kf : KF K) (ht : takerIn K Cc (Str.ofString "name") = some none) (X : K.In h₀) (ap : Iap x d rest) (io : Io og w x d rest h₀ L l 0 v s.heap (s.os, s.drawn) s.gens) (h : ∀ s', Io og w x d rest h₀ L l 1 { v with nm := val } s'.heap (s'.os, s'.drawn) s'.gens → Q () s') :
    wpAny (model prog w) A (setAttr (.ref x) (Str.ofString "name") val) Q E s :=
  i_set (fun v u => { v with nm := u }) kf X ap io ht (fun k t => ⟨fun i => if i = 0 then t else k i, by kernel_rfl⟩) (fun _ => by kernel_rfl) h
theorem is_byteMask {val : Value} {Q : Unit → Shared → Prop} (kf : KF K) (ht : takerIn K Cc (Str.ofString "byteMask") = some none) (X : K.In h₀) (ap : Iap x d rest) (io : Io og w x d rest h₀ L l 1 v s.heap (s.os, s.drawn) s.gens) (h : ∀ s', Io og w x d rest h₀ L l 2 { v with bm := val } s'.heap (s'.os, s'.drawn) s'.gens → Q () s') :
    wpAny (model prog w) A (setAttr (.ref x) (Str.ofString "byteMask") val) Q E s :=
  i_set (fun v u => { v with bm := u }) kf X ap io ht (fun k t => ⟨fun i => if i = 1 then t else k i, by kernel_rfl⟩) (fun _ => by kernel_rfl) h
theorem is_addrMask {val : Value} {Q : Unit → Shared → Prop} (kf : KF K) (ht : takerIn K Cc (Str.ofString "addrMask") = some none) (X : K.In h₀) (ap : Iap x d rest) (io : Io og w x d rest h₀ L l 2 v s.heap (s.os, s.drawn) s.gens) (h : ∀ s', Io og w x d rest h₀ L l 3 { v with am := val } s'.heap (s'.os, s'.drawn) s'.gens → Q () s') :
    wpAny (model prog w) A (setAttr (.ref x) (Str.ofString "addrMask") val) Q E s :=
  i_set (fun v u => { v with am := u }) kf X ap io ht (fun k t => ⟨fun i => if i = 2 then t else k i, by kernel_rfl⟩) (fun _ => by kernel_rfl) h
theorem is_addrHighMask {val : Value} {Q : Unit → Shared → Prop} (kf : KF K) (ht : takerIn K Cc (Str.ofString "addrHighMask") = some none) (X : K.In h₀) (ap : Iap x d rest) (io : Io og w x d rest h₀ L l 3 v s.heap (s.os, s.drawn) s.gens) (h : ∀ s', Io og w x d rest h₀ L l 4 { v with ah := val } s'.heap (s'.os, s'.drawn) s'.gens → Q () s') :
    wpAny (model prog w) A (setAttr (.ref x) (Str.ofString "addrHighMask") val) Q E s :=
  i_set (fun v u => { v with ah := u }) kf X ap io ht (fun k t => ⟨fun i => if i = 3 then t else k i, by kernel_rfl⟩) (fun _ => by kernel_rfl) h
theorem is_spBase {val : Value} {Q : Unit → Shared → Prop} (kf : KF K) (ht : takerIn K Cc (Str.ofString "spBase") = some none) (X : K.In h₀) (ap : Iap x d rest) (io : Io og w x d rest h₀ L l 4 v s.heap (s.os, s.drawn) s.gens) (h : ∀ s', Io og w x d rest h₀ L l 5 { v with sb := val } s'.heap (s'.os, s'.drawn) s'.gens → Q () s') :
    wpAny (model prog w) A (setAttr (.ref x) (Str.ofString "spBase") val) Q E s :=
  i_set (fun v u => { v with sb := u }) kf X ap io ht (fun k t => ⟨fun i => if i = 4 then t else k i, by kernel_rfl⟩) (fun _ => by kernel_rfl) h
theorem is_excycles {val : Value} {Q : Unit → Shared → Prop} (kf : KF K) (ht : takerIn K Cc (Str.ofString "excycles") = some none) (X : K.In h₀) (ap : Iap x d rest) (io : Io og w x d rest h₀ L l 5 v s.heap (s.os, s.drawn) s.gens) (h : ∀ s', Io og w x d rest h₀ L l 6 { v with ex := val } s'.heap (s'.os, s'.drawn) s'.gens → Q () s') :
    wpAny (model prog w) A (setAttr (.ref x) (Str.ofString "excycles") val) Q E s :=
  i_set (fun v u => { v with ex := u }) kf X ap io ht (fun k t => ⟨fun i => if i = 5 then t else k i, by kernel_rfl⟩) (fun _ => by kernel_rfl) h
theorem is_addcycles {val : Value} {Q : Unit → Shared → Prop} (kf : KF K) (ht : takerIn K Cc (Str.ofString "addcycles") = some none) (X : K.In h₀) (ap : Iap x d rest) (io : Io og w x d rest h₀ L l 6 v s.heap (s.os, s.drawn) s.gens) (h : ∀ s', Io og w x d rest h₀ L l 7 { v with ad := val } s'.heap (s'.os, s'.drawn) s'.gens → Q () s') :
    wpAny (model prog w) A (setAttr (.ref x) (Str.ofString "addcycles") val) Q E s :=
  i_set (fun v u => { v with ad := u }) kf X ap io ht (fun k t => ⟨fun i => if i = 6 then t else k i, by kernel_rfl⟩) (fun _ => by kernel_rfl) h
theorem is_processorCycles {val : Value} {Q : Unit → Shared → Prop} (kf : KF K) (ht : takerIn K Cc (Str.ofString "processorCycles") = some none) (X : K.In h₀) (ap : Iap x d rest) (io : Io og w x d rest h₀ L l 7 v s.heap (s.os, s.drawn) s.gens) (h : ∀ s', Io og w x d rest h₀ L l 8 { v with cy := val } s'.heap (s'.os, s'.drawn) s'.gens → Q () s') :
    wpAny (model prog w) A (setAttr (.ref x) (Str.ofString "processorCycles") val) Q E s :=
  i_set (fun v u => { v with cy := u }) kf X ap io ht (fun k t => ⟨fun i => if i = 7 then t else k i, by kernel_rfl⟩) (fun _ => by kernel_rfl) h
theorem is_memory {val : Value} {Q : Unit → Shared → Prop} (kf : KF K) (ht : takerIn K Cc (Str.ofString "memory") = some none) (X : K.In h₀) (ap : Iap x d rest) (io : Io og w x d rest h₀ L l 8 v s.heap (s.os, s.drawn) s.gens) (h : ∀ s', Io og w x d rest h₀ L l 9 { v with me := val } s'.heap (s'.os, s'.drawn) s'.gens → Q () s') :
    wpAny (model prog w) A (setAttr (.ref x) (Str.ofString "memory") val) Q E s :=
  i_set (fun v u => { v with me := u }) kf X ap io ht (fun k t => ⟨fun i => if i = 8 then t else k i, by kernel_rfl⟩) (fun _ => by kernel_rfl) h
theorem is_start_pc {val : Value} {Q : Unit → Shared → Prop} (kf : KF K) (ht : takerIn K Cc (Str.ofString "start_pc") = some none) (X : K.In h₀) (ap : Iap x d rest) (io : Io og w x d rest h₀ L l 9 v s.heap (s.os, s.drawn) s.gens) (h : ∀ s', Io og w x d rest h₀ L l 10 { v with st := val } s'.heap (s'.os, s'.drawn) s'.gens → Q () s') :
    wpAny (model prog w) A (setAttr (.ref x) (Str.ofString "start_pc") val) Q E s :=
  i_set (fun v u => { v with st := u }) kf X ap io ht (fun k t => ⟨fun i => if i = 9 then t else k i, by kernel_rfl⟩) (fun _ => by kernel_rfl) h
theorem is_pc {val : Value} {Q : Unit → Shared → Prop} (kf : KF K) (ht : takerIn K Cc (Str.ofString "pc") = some none) (X : K.In h₀) (ap : Iap x d rest) (io : Io og w x d rest h₀ L l 10 v s.heap (s.os, s.drawn) s.gens) (h : ∀ s', Io og w x d rest h₀ L l 11 { v with pc := val } s'.heap (s'.os, s'.drawn) s'.gens → Q () s') :
    wpAny (model prog w) A (setAttr (.ref x) (Str.ofString "pc") val) Q E s :=
  i_set (fun v u => { v with pc := u }) kf X ap io ht (fun k t => ⟨fun i => if i = 10 then t else k i, by kernel_rfl⟩) (fun _ => by kernel_rfl) h
theorem is_sp {val : Value} {Q : Unit → Shared → Prop} (kf : KF K) (ht : takerIn K Cc (Str.ofString "sp") = some none) (X : K.In h₀) (ap : Iap x d rest) (io : Io og w x d rest h₀ L l 11 v s.heap (s.os, s.drawn) s.gens) (h : ∀ s', Io og w x d rest h₀ L l 12 { v with sp := val } s'.heap (s'.os, s'.drawn) s'.gens → Q () s') :
    wpAny (model prog w) A (setAttr (.ref x) (Str.ofString "sp") val) Q E s :=
  i_set (fun v u => { v with sp := u }) kf X ap io ht (fun k t => ⟨fun i => if i = 11 then t else k i, by kernel_rfl⟩) (fun _ => by kernel_rfl) h
theorem is_a {val : Value} {Q : Unit → Shared → Prop} (kf : KF K) (ht : takerIn K Cc (Str.ofString "a") = some none) (X : K.In h₀) (ap : Iap x d rest) (io : Io og w x d rest h₀ L l 12 v s.heap (s.os, s.drawn) s.gens) (h : ∀ s', Io og w x d rest h₀ L l 13 { v with a := val } s'.heap (s'.os, s'.drawn) s'.gens → Q () s') :
    wpAny (model prog w) A (setAttr (.ref x) (Str.ofString "a") val) Q E s :=
  i_set (fun v u => { v with a := u }) kf X ap io ht (fun k t => ⟨fun i => if i = 12 then t else k i, by kernel_rfl⟩) (fun _ => by kernel_rfl) h
theorem is_x {val : Value} {Q : Unit → Shared → Prop} (kf : KF K) (ht : takerIn K Cc (Str.ofString "x") = some none) (X : K.In h₀) (ap : Iap x d rest) (io : Io og w x d rest h₀ L l 13 v s.heap (s.os, s.drawn) s.gens) (h : ∀ s', Io og w x d rest h₀ L l 14 { v with x := val } s'.heap (s'.os, s'.drawn) s'.gens → Q () s') :
    wpAny (model prog w) A (setAttr (.ref x) (Str.ofString "x") val) Q E s :=
  i_set (fun v u => { v with x := u }) kf X ap io ht (fun k t => ⟨fun i => if i = 13 then t else k i, by kernel_rfl⟩) (fun _ => by kernel_rfl) h
theorem is_y {val : Value} {Q : Unit → Shared → Prop} (kf : KF K) (ht : takerIn K Cc (Str.ofString "y") = some none) (X : K.In h₀) (ap : Iap x d rest) (io : Io og w x d rest h₀ L l 14 v s.heap (s.os, s.drawn) s.gens) (h : ∀ s', Io og w x d rest h₀ L l 15 { v with y := val } s'.heap (s'.os, s'.drawn) s'.gens → Q () s') :
    wpAny (model prog w) A (setAttr (.ref x) (Str.ofString "y") val) Q E s :=
  i_set (fun v u => { v with y := u }) kf X ap io ht (fun k t => ⟨fun i => if i = 14 then t else k i, by kernel_rfl⟩) (fun _ => by kernel_rfl) h
theorem is_p {val : Value} {Q : Unit → Shared → Prop} (kf : KF K) (ht : takerIn K Cc (Str.ofString "p") = some none) (X : K.In h₀) (ap : Iap x d rest) (io : Io og w x d rest h₀ L l 15 v s.heap (s.os, s.drawn) s.gens) (h : ∀ s', Io og w x d rest h₀ L l 16 { v with p := val } s'.heap (s'.os, s'.drawn) s'.gens → Q () s') :
    wpAny (model prog w) A (setAttr (.ref x) (Str.ofString "p") val) Q E s :=
  i_set (fun v u => { v with p := u }) kf X ap io ht (fun k t => ⟨fun i => if i = 15 then t else k i, by kernel_rfl⟩) (fun _ => by kernel_rfl) h
theorem is_cy2 {val : Value} {Q : Unit → Shared → Prop} (kf : KF K) (ht : takerIn K Cc (Str.ofString "processorCycles") = some none) (X : K.In h₀) (ap : Iap x d rest) (io : Io og w x d rest h₀ L l 16 v s.heap (s.os, s.drawn) s.gens) (h : ∀ s', Io og w x d rest h₀ L l 16 { v with cy := val } s'.heap (s'.os, s'.drawn) s'.gens → Q () s') :
    wpAny (model prog w) A (setAttr (.ref x) (Str.ofString "processorCycles") val) Q E s :=
  i_set (fun v u => { v with cy := u }) kf X ap io ht (fun k t => ⟨k, by kernel_rfl⟩) (fun _ => by kernel_rfl) h
theorem ig_byteMask_3 (kf : KF K) (hf : findIn K (.ref Cc) (Str.ofString "byteMask") = some none) (X : K.In h₀) (io : Io og w x d rest h₀ L l 3 v s.heap (s.os, s.drawn) s.gens) (hh : handedIn v.bm = true) (h : ∀ s', Io og w x d rest h₀ L l 3 v s'.heap (s'.os, s'.drawn) s'.gens → Q v.bm s') :
    wpAny (model prog w) A (getAttr (.ref x) (Str.ofString "byteMask") true) Q E s := i_own kf X io hf (fun _ => by kernel_rfl) hh h
theorem ig_start_pc_10 (kf : KF K) (hf : findIn K (.ref Cc) (Str.ofString "start_pc") = some none) (X : K.In h₀) (io : Io og w x d rest h₀ L l 10 v s.heap (s.os, s.drawn) s.gens) (hh : handedIn v.st = true) (h : ∀ s', Io og w x d rest h₀ L l 10 v s'.heap (s'.os, s'.drawn) s'.gens → Q v.st s') :
    wpAny (model prog w) A (getAttr (.ref x) (Str.ofString "start_pc") true) Q E s := i_own kf X io hf (fun _ => by kernel_rfl) hh h
theorem ig_pc_11 (kf : KF K) (hf : findIn K (.ref Cc) (Str.ofString "pc") = some none) (X : K.In h₀) (io : Io og w x d rest h₀ L l 11 v s.heap (s.os, s.drawn) s.gens) (hh : handedIn v.pc = true) (h : ∀ s', Io og w x d rest h₀ L l 11 v s'.heap (s'.os, s'.drawn) s'.gens → Q v.pc s') :
    wpAny (model prog w) A (getAttr (.ref x) (Str.ofString "pc") true) Q E s := i_own kf X io hf (fun _ => by kernel_rfl) hh h
theorem ig_byteMask_11 (kf : KF K) (hf : findIn K (.ref Cc) (Str.ofString "byteMask") = some none) (X : K.In h₀) (io : Io og w x d rest h₀ L l 11 v s.heap (s.os, s.drawn) s.gens) (hh : handedIn v.bm = true) (h : ∀ s', Io og w x d rest h₀ L l 11 v s'.heap (s'.os, s'.drawn) s'.gens → Q v.bm s') :
    wpAny (model prog w) A (getAttr (.ref x) (Str.ofString "byteMask") true) Q E s := i_own kf X io hf (fun _ => by kernel_rfl) hh h
theorem ic_BYTE_WIDTH_1 (kf : KF K) (hc : ∃ t, findIn K (.ref Cc) (Str.ofString "BYTE_WIDTH") = some (some (.int 8 t)) ∧ specialIn K (.int 8 t) "__get__" = some none) (X : K.In h₀) (io : Io og w x d rest h₀ L l 1 v s.heap (s.os, s.drawn) s.gens) (h : ∀ t s', Io og w x d rest h₀ L l 1 v s'.heap (s'.os, s'.drawn) s'.gens → Q (.int 8 t) s') :
    wpAny (model prog w) A (getAttr (.ref x) (Str.ofString "BYTE_WIDTH") true) Q E s := by
  obtain ⟨t, e1, e2⟩ := hc
  exact i_cls kf X io e1 e2 rfl (by kernel_rfl) (fun _ => by kernel_rfl) (h t)
theorem ic_ADDR_WIDTH_2 (kf : KF K) (hc : ∃ t, findIn K (.ref Cc) (Str.ofString "ADDR_WIDTH") = some (some (.int 16 t)) ∧ specialIn K (.int 16 t) "__get__" = some none) (X : K.In h₀) (io : Io og w x d rest h₀ L l 2 v s.heap (s.os, s.drawn) s.gens) (h : ∀ t s', Io og w x d rest h₀ L l 2 v s'.heap (s'.os, s'.drawn) s'.gens → Q (.int 16 t) s') :
    wpAny (model prog w) A (getAttr (.ref x) (Str.ofString "ADDR_WIDTH") true) Q E s := by
  obtain ⟨t, e1, e2⟩ := hc
  exact i_cls kf X io e1 e2 rfl (by kernel_rfl) (fun _ => by kernel_rfl) (h t)
theorem ic_BYTE_WIDTH_3 (kf : KF K) (hc : ∃ t, findIn K (.ref Cc) (Str.ofString "BYTE_WIDTH") = some (some (.int 8 t)) ∧ specialIn K (.int 8 t) "__get__" = some none) (X : K.In h₀) (io : Io og w x d rest h₀ L l 3 v s.heap (s.os, s.drawn) s.gens) (h : ∀ t s', Io og w x d rest h₀ L l 3 v s'.heap (s'.os, s'.drawn) s'.gens → Q (.int 8 t) s') :
    wpAny (model prog w) A (getAttr (.ref x) (Str.ofString "BYTE_WIDTH") true) Q E s := by
  obtain ⟨t, e1, e2⟩ := hc
  exact i_cls kf X io e1 e2 rfl (by kernel_rfl) (fun _ => by kernel_rfl) (h t)
theorem ic_BYTE_WIDTH_4 (kf : KF K) (hc : ∃ t, findIn K (.ref Cc) (Str.ofString "BYTE_WIDTH") = some (some (.int 8 t)) ∧ specialIn K (.int 8 t) "__get__" = some none) (X : K.In h₀) (io : Io og w x d rest h₀ L l 4 v s.heap (s.os, s.drawn) s.gens) (h : ∀ t s', Io og w x d rest h₀ L l 4 v s'.heap (s'.os, s'.drawn) s'.gens → Q (.int 8 t) s') :
    wpAny (model prog w) A (getAttr (.ref x) (Str.ofString "BYTE_WIDTH") true) Q E s := by
  obtain ⟨t, e1, e2⟩ := hc
  exact i_cls kf X io e1 e2 rfl (by kernel_rfl) (fun _ => by kernel_rfl) (h t)
theorem ic_BREAK_15 (kf : KF K) (hc : ∃ t, findIn K (.ref Cc) (Str.ofString "BREAK") = some (some (.int 16 t)) ∧ specialIn K (.int 16 t) "__get__" = some none) (X : K.In h₀) (io : Io og w x d rest h₀ L l 15 v s.heap (s.os, s.drawn) s.gens) (h : ∀ t s', Io og w x d rest h₀ L l 15 v s'.heap (s'.os, s'.drawn) s'.gens → Q (.int 16 t) s') :
    wpAny (model prog w) A (getAttr (.ref x) (Str.ofString "BREAK") true) Q E s := by
  obtain ⟨t, e1, e2⟩ := hc
  exact i_cls kf X io e1 e2 rfl (by kernel_rfl) (fun _ => by kernel_rfl) (h t)
theorem ic_UNUSED_15 (kf : KF K) (hc : ∃ t, findIn K (.ref Cc) (Str.ofString "UNUSED") = some (some (.int 32 t)) ∧ specialIn K (.int 32 t) "__get__" = some none) (X : K.In h₀) (io : Io og w x d rest h₀ L l 15 v s.heap (s.os, s.drawn) s.gens) (h : ∀ t s', Io og w x d rest h₀ L l 15 v s'.heap (s'.os, s'.drawn) s'.gens → Q (.int 32 t) s') :
    wpAny (model prog w) A (getAttr (.ref x) (Str.ofString "UNUSED") true) Q E s := by
  obtain ⟨t, e1, e2⟩ := hc
  exact i_cls kf X io e1 e2 rfl (by kernel_rfl) (fun _ => by kernel_rfl) (h t)
end
local macro_rules | `(tactic| walk_at "iw") => `(tactic| first
  | (with_reducible refine wpAny_execs_cons ?_)
  | (with_reducible refine wpAny_execs_nil ?_)
  | (with_reducible refine wpAny_BinOp ?_)
  | (with_reducible refine Attribute_Name_ ?_ (by kernel_rfl))
  | ((with_reducible refine' o_loc ?okk ?att ?_); (case okk => walk_at "asm"); (case att => walk_at "at"))
  | (with_reducible refine o_int (by walk_at "asm") ?_; intro _ _ _)
  | (with_reducible refine o_sub (by walk_at "asm") ?_; intro _ _ _)
  | (with_reducible refine o_or (by walk_at "asm") ?_; intro _ _ _)
  | ((with_reducible refine' o_shl ?okk ?h1 ?h2 ?h3 ?_); (case okk => walk_at "asm"); (case h1 => decide); (case h2 => decide); (case h3 => decide); intro _ _ _)
  | (with_reducible refine plainObj_wpAny_Assign_Attribute ?_ (by kernel_rfl))
  | (with_reducible refine wpAny_If ?_)
  | (with_reducible refine wpAny_isTrue_Compare1 ?_ (by kernel_rfl))
  | (with_reducible refine Constant_none ?_)
  | (with_reducible refine is_rn ?_)
  | (with_reducible refine wpAny_truthy_bool ?_)
  | (with_reducible refine ite_ff ?_)
  | (with_reducible refine wpAny_Pass ?_))
theorem is_in {prog : Program} {w : World} {A : Around} {E : Value → Shared → Prop} {s : Shared} {i : Int} {t : Tok} {Q : Value → Shared → Prop} (h : Q (.bool false) s) : wpAny (model prog w) A (compareOp .Is (.int i t) .none) Q E s := wpAny_is_other rfl (by intro e; cases e) h
section
variable {og o9 : OsState × Drawn} {g9 : Array GenState} {K : Frag} {n : Nat} {A : Around} {env : Env} {h₀ : Heap} {L x d f M : Addr} {rest : List (Addr × Obj)} {l : List (Str × Value)} {j : Nat} {v : AV} {s : Shared} {w : World} {prog : Program} {E : Value → Shared → Prop} {Q : Value → Shared → Prop}
theorem call_fnI {i : Nat} {nm : Str} {f : Addr} {args : List Value} (rl : List (Str × Value)) (R : Value → Nat → AV → Prop) (mt : Meth K i nm f) (cx : Cx K n A env h₀ L) (hn : n < 100) (io : Io og w x d rest h₀ L l j v s.heap (s.os, s.drawn) s.gens)
    (hb : ∀ qual kV doc pm an cdv ct, bindArgs (fnOf (fName pw i) qual (fPar pw i) (fBody pw i) (fSc pw i) .none kV doc pm an cdv ct) ⟨args, []⟩ = pure rl.reverse)
    (hloc : (rl.reverse.all fun x => decide ((fSc pw i).names.lookup x.1 = some .local)) = true)
    (hsc : ((fSc pw i).isCoroutine, (fSc pw i).isGenerator, (fSc pw i).kind) = (false, false, .function)) (hcell : (fSc pw i).names.all (fun x => x.2 != .cell) = true)
    (body : ∀ q cd g L' A' s', Cx K (n + 1) A' (envOf q (fSc pw i) L' f cd) g L' → Io og w x d rest g L' rl j v s'.heap (s'.os, s'.drawn) s'.gens →
      wpAny (model prog w) A' (execs (fBody pw i) (envOf q (fSc pw i) L' f cd)) (fun fl s2 => ∃ l' j' v', Io og w x d rest g L' l' j' v' s2.heap (s2.os, s2.drawn) s2.gens ∧ R (retOf fl) j' v') (fun _ _ => False) s')
    (hq : ∀ r j' v' s2, R r j' v' → Io og w x d rest h₀ L l j' v' s2.heap (s2.os, s2.drawn) s2.gens → Q r s2) :
    codeAny (model prog w) A (.call (.ref f) ⟨args, []⟩) (Rt Q E) s := by
  obtain ⟨F, ⟨k, dn, N⟩, iO⟩ := io
  obtain ⟨A₀, base, outer, B, hA⟩ := cx.B
  obtain ⟨p, loose, mean, mg, mb, T⟩ := cx.T
  obtain ⟨qual, kV, doc, pm, an, cdv, ct, oc, od, osl, ho, hc⟩ := mt.look
  obtain ⟨s1, s2, s3⟩ : _ ∧ _ ∧ _ := by simpa only [Prod.mk.injEq] using hsc
  refine code_def B F cx.X N T hA cx.hf cx.hk ho hc (Nat.lt_of_le_of_lt cx.dep (by show n + 400 < 1000; omega)) (BindsTo.of_eq (hb _ _ _ _ _ _ _)) (locs hloc) (fun g L' h₁ FG F' N' B' X' T' => ?_) s1 s2 s3 (fun y hy => ?_)
  · rw [List.reverse_reverse] at F'
    refine wpAny_mono (body qual cdv g L' (A.deeper (envOf qual (fSc pw i) L' f cdv)) _ ⟨⟨_, _, _, B', Around.frames_deeper hA⟩, rfl, s3, X', ⟨_, _, _, _, _, T'⟩, ?_⟩ ⟨F', ⟨k, dn, N'⟩, iO⟩) (fun fl t hl => ?_) fun _ _ h => h.elim
    · have := cx.dep
      show A.depth + 1 ≤ n + 1 + 400
      omega
    · obtain ⟨l', j', v', ⟨F2, ⟨k2, n2, N2⟩, iO2⟩, r⟩ := hl
      refine leaveK_ F2 N2 fun F3 N3 => ?_
      have z := hq _ j' v' t r ⟨F3, ⟨k2, n2, N3⟩, iO2⟩
      cases fl <;> exact z
  · have := List.all_eq_true.mp hcell y hy
    simpa using this
/-- what reset makes of the attributes -/
structure Reset (v v' : AV) : Prop where
  same : v'.nm = v.nm ∧ v'.bm = v.bm ∧ v'.am = v.am ∧ v'.sb = v.sb ∧ v'.ex = v.ex ∧ v'.me = v.me
  pc : v'.pc = v.st
  sp : v'.sp = v.bm
  a : IsI v'.a 0
  x : IsI v'.x 0
  y : IsI v'.y 0
  p : IsI v'.p 48
  cy : IsI v'.cy 0
theorem c_reset {ts : Tok} (ki : KI K) (kf : KF K) (cx : Cx K n A env h₀ L) (hn : n < 90) (ap : Iap x d rest) (io : Io og w x d rest h₀ L l 10 v s.heap (s.os, s.drawn) s.gens) (hst : v.st = .int 512 ts) (hbm : IsI v.bm 255) (hq : ∀ v' s', Reset v v' → Io og w x d rest h₀ L l 16 v' s'.heap (s'.os, s'.drawn) s'.gens → Q .none s') :
    codeAny (model prog w) A (.call (.ref 50) ⟨[.ref x], []⟩) (Rt Q E) s := by
  refine call_fnI [(Str.ofString "self", .ref x)] (fun r j' v' => r = .none ∧ j' = 16 ∧ Reset v v') ki.m_reset cx (by omega) io (fun _ _ _ _ _ _ _ => by kernel_rfl) (by kernel_rfl) (by kernel_rfl) (by kernel_rfl) (fun q cd g L' A' s1 cx1 io1 => ?_) (fun r j' v' s2 hr io2 => ?_)
  · obtain ⟨tb, hb⟩ := hbm
    refine wpAny_execs_cons ?_
    repeat' (walk_at "iw")
    refine ig_start_pc_10 kf ki.i_start_pc.1 cx1.X (by walk_at "asm") (by rw [hst]; rfl) ?_
    intro _ _
    repeat' (walk_at "iw")
    refine is_pc kf kf.i_pc.2 cx1.X ap (by walk_at "asm") ?_
    intro _ _
    repeat' (walk_at "iw")
    refine ig_pc_11 kf kf.i_pc.1 cx1.X (by walk_at "asm") (by show handedIn v.st = true; rw [hst]; rfl) ?_
    intro _ _
    repeat' (walk_at "iw")
    show wpAny (model prog w) _ (compareOp .Is v.st .none) _ _ _
    rw [hst]
    refine is_in ?_
    repeat' (walk_at "iw")
    refine ig_byteMask_11 kf kf.i_byteMask.1 cx1.X (by walk_at "asm") (by show handedIn v.bm = true; rw [hb]; rfl) ?_
    intro _ _
    repeat' (walk_at "iw")
    refine is_sp kf kf.i_sp.2 cx1.X ap (by walk_at "asm") ?_
    intro _ _
    repeat' (walk_at "iw")
    refine is_a kf kf.i_a.2 cx1.X ap (by walk_at "asm") ?_
    intro _ _
    repeat' (walk_at "iw")
    refine is_x kf kf.i_x.2 cx1.X ap (by walk_at "asm") ?_
    intro _ _
    repeat' (walk_at "iw")
    refine is_y kf kf.i_y.2 cx1.X ap (by walk_at "asm") ?_
    intro _ _
    repeat' (walk_at "iw")
    refine ic_BREAK_15 kf ki.c_BREAK cx1.X (by walk_at "asm") ?_
    intro _ _ _
    repeat' (walk_at "iw")
    refine ic_UNUSED_15 kf ki.c_UNUSED cx1.X (by walk_at "asm") ?_
    intro _ _ _
    repeat' (walk_at "iw")
    refine is_p kf kf.i_p.2 cx1.X ap (by walk_at "asm") ?_
    intro _ _
    repeat' (walk_at "iw")
    refine is_cy2 kf kf.i_processorCycles.2 cx1.X ap (by walk_at "asm") ?_
    intro _ _
    repeat' (walk_at "iw")
    refine ⟨_, _, _, by walk_at "asm", ?_⟩
    refine ⟨rfl, rfl, ⟨⟨rfl, rfl, rfl, rfl, rfl, rfl⟩, ?_, rfl, ⟨_, rfl⟩, ⟨_, rfl⟩, ⟨_, rfl⟩, ⟨_, rfl⟩, ⟨_, rfl⟩⟩⟩
    first | rfl | exact hst.symm
  · obtain ⟨rfl, rfl, hv⟩ := hr
    exact hq v' s2 hv io2
end
theorem o_str {x d L : Addr} {A : Around} {env : Env} {h₀ : Heap} {rest : List (Addr × Obj)} {l : List (Str × Value)} {j : Nat} {v : AV} {s : Shared} {w : World} {prog : Program} {E Q : Value → Shared → Prop} {pos : Pos} {i : Str} {k : Nat} (io : Io og w x d rest h₀ L l j v s.heap (s.os, s.drawn) s.gens) (h : ∀ t s', Io og w x d rest h₀ L l j v s'.heap (s'.os, s'.drawn) s'.gens → Q (.str i t) s') : wpAny (model prog w) A (eval (.Constant (.str i) k pos) env) Q E s := wpAny_Constant_str (h _ _ io)
theorem i_mcall0 {K : Frag} {n : Nat} {A : Around} {h₀ : Heap} {L x d f : Addr} {rest : List (Addr × Obj)} {l : List (Str × Value)} {j : Nat} {v : AV} {s : Shared} {w : World} {prog : Program} {E : Value → Shared → Prop} {q : Str} {sc : Scope} {cd : Value} {nm : Str} {i : Nat} {g : Addr} {sn : Str} {p1 apos pos : Pos} {Q : Value → Shared → Prop} (kf : KF K) (mt : Meth K i nm g) (cx : Cx K n A (envOf q sc L f cd) h₀ L) (io : Io og w x d rest h₀ L l j v s.heap (s.os, s.drawn) s.gens)
    (hl : ∀ k, getL nm ((ents w k v).take j) = some none) (hx : At l sn (.ref x)) (h : wpAny (model prog w) A (call (.ref g) ([.ref x] ++ [])) Q E s)
    (hk : sc.kind = .function := by kernel_rfl) (hll : (envOf q sc L f cd).kindOf sn = some .local := by kernel_rfl)
    (hd : (sn == ("__debug__" : Str)) = false := by kernel_rfl)
    (hm : eval (.Call (.Attribute (.Name sn p1) nm apos) [] [] pos) (envOf q sc L f cd) = (do
      let ov ← eval (.Name sn p1) (envOf q sc L f cd)
      standAt apos.atName
      let (f', first) ← holding [ov] (getMethod ov nm (plOf sn p1 (envOf q sc L f cd)))
      callWith pos f' first (backTo pos (starEach [] (envOf q sc L f cd))) (backToKw pos (keywordEach [] (envOf q sc L f cd)))) := by kernel_rfl) :
    wpAny (model prog w) A (eval (.Call (.Attribute (.Name sn p1) nm apos) [] [] pos) (envOf q sc L f cd)) Q E s := by
  obtain ⟨k, dn, I⟩ := io.inst
  exact methodCall_KW (pl := plOf sn p1 (envOf q sc L f cd)) (o_loc io hx (method_inst io.F cx.X I (kf.pg nm) mt.find mt.isf (hl k) (callWith_K0 (cx.kin io.F) mt.keep h)) hk hll hd) hm
section
variable {og o9 : OsState × Drawn} {g9 : Array GenState} {K : Frag} {n : Nat} {A : Around} {env : Env} {h₀ : Heap} {L x d f M : Addr} {rest news : List (Addr × Obj)} {l : List (Str × Value)} {j : Nat} {v : AV} {s : Shared} {w : World} {prog : Program} {E : Value → Shared → Prop} {Q : Value → Shared → Prop} {t : Tok}
theorem w_init {g : Heap} {L' : Addr} {q : Str} {cd : Value} {A' : Around} (ki : KI K) (kf : KF K) (cx1 : Cx K n A' (envOf q (fSc pw 15) L' 36 cd) g L') (hn : n < 80) (ap : Iap x d rest)
    (io : Io og w x d rest g L' [(Str.ofString "pc", .int 512 t), (Str.ofString "memory", .ref M), (Str.ofString "self", .ref x)] 0 v s.heap (s.os, s.drawn) s.gens) :
    wpAny (model prog w) A' (execs (fBody pw 15) (envOf q (fSc pw 15) L' 36 cd)) (fun fl s2 => ∃ l' v', Io og w x d rest g L' l' 16 v' s2.heap (s2.os, s2.drawn) s2.gens ∧ retOf fl = .none ∧ ∀ mem, Vals v' ⟨0, 0, 0, 255, 48, 512, 0, mem⟩ M) (fun _ _ => False) s := by
  refine wpAny_execs_cons ?_
  repeat' (walk_at "iw")
  refine o_str io ?_
  intro _ _ _
  repeat' (walk_at "iw")
  refine is_name kf ki.i_name.2 cx1.X ap (by walk_at "asm") ?_
  intro _ _
  repeat' (walk_at "iw")
  refine ic_BYTE_WIDTH_1 kf ki.c_BYTE_WIDTH cx1.X (by walk_at "asm") ?_
  intro _ _ _
  repeat' (walk_at "iw")
  refine is_byteMask kf kf.i_byteMask.2 cx1.X ap (by walk_at "asm") ?_
  intro _ _
  repeat' (walk_at "iw")
  refine ic_ADDR_WIDTH_2 kf ki.c_ADDR_WIDTH cx1.X (by walk_at "asm") ?_
  intro _ _ _
  repeat' (walk_at "iw")
  refine is_addrMask kf kf.i_addrMask.2 cx1.X ap (by walk_at "asm") ?_
  intro _ _
  repeat' (walk_at "iw")
  refine ig_byteMask_3 kf kf.i_byteMask.1 cx1.X (by walk_at "asm") rfl ?_
  intro _ _
  repeat' (walk_at "iw")
  refine ic_BYTE_WIDTH_3 kf ki.c_BYTE_WIDTH cx1.X (by walk_at "asm") ?_
  intro _ _ _
  dsimp only
  repeat' (walk_at "iw")
  refine is_addrHighMask kf ki.i_addrHighMask.2 cx1.X ap (by walk_at "asm") ?_
  intro _ _
  repeat' (walk_at "iw")
  refine ic_BYTE_WIDTH_4 kf ki.c_BYTE_WIDTH cx1.X (by walk_at "asm") ?_
  intro _ _ _
  repeat' (walk_at "iw")
  refine is_spBase kf kf.i_spBase.2 cx1.X ap (by walk_at "asm") ?_
  intro _ _
  repeat' (walk_at "iw")
  refine is_excycles kf kf.i_excycles.2 cx1.X ap (by walk_at "asm") ?_
  intro _ _
  repeat' (walk_at "iw")
  refine wpAny_Constant_bool ?_
  repeat' (walk_at "iw")
  refine is_addcycles kf kf.i_addcycles.2 cx1.X ap (by walk_at "asm") ?_
  intro _ _
  repeat' (walk_at "iw")
  refine is_processorCycles kf kf.i_processorCycles.2 cx1.X ap (by walk_at "asm") ?_
  intro _ _
  repeat' (walk_at "iw")
  refine is_memory kf kf.i_memory.2 cx1.X ap (by walk_at "asm") ?_
  intro _ _
  repeat' (walk_at "iw")
  refine is_start_pc kf ki.i_start_pc.2 cx1.X ap (by walk_at "asm") ?_
  intro _ io9
  repeat' (walk_at "iw")
  refine wpAny_Expr_any ?_ (by kernel_rfl) (by kernel_rfl)
  refine i_mcall0 kf ki.m_reset cx1 io9 (fun _ => by kernel_rfl) (by walk_at "at") ?_
  dsimp only [List.cons_append, List.nil_append]
  refine wpAny_call ?_
  refine c_reset ki kf cx1 (by omega) ap io9 rfl ⟨_, rfl⟩ ?_
  intro v' s' hr io10
  repeat' (walk_at "iw")
  refine ⟨_, v', io10, rfl, fun mem => ?_⟩
  obtain ⟨⟨_, h2, h3, h4, h5, h6⟩, pc, sp, a, x, y, p, cy⟩ := hr
  refine ⟨⟨_, h2⟩, ⟨_, h3⟩, ⟨_, h4⟩, ⟨_, h5⟩, ⟨0, cy⟩, h6, ⟨_, pc⟩, ⟨_, sp.trans rfl⟩, a, x, y, p⟩
end
abbrev AtI (l : List (Str × Value)) (nm : Str) (i : Int) : Prop := ∃ t, At l nm (.int i t)
/-- the law's own values -/
structure LV where
  a : Int
  x : Int
  y : Int
  st : Int
  c : Int
  o : Int
  pl : List Int
  told : Option Int
def toldV (l : List (Str × Value)) : Option Int → Prop
  | none => At l (Str.ofString "told") .none
  | some i => AtI l (Str.ofString "told") i
structure Loc (l : List (Str × Value)) (V : LV) : Prop where
  a : AtI l (Str.ofString "a") V.a
  x : AtI l (Str.ofString "x") V.x
  y : AtI l (Str.ofString "y") V.y
  st : AtI l (Str.ofString "stack") V.st
  c : AtI l (Str.ofString "carry") V.c
  o : AtI l (Str.ofString "over") V.o
  told : toldV l V.told
theorem AtI.of {l : List (Str × Value)} {nm : Str} {i j : Int} {t : Tok} (h : At l nm (.int i t)) (e : i = j) : AtI l nm j := e ▸ ⟨t, h⟩
theorem told_some {l : List (Str × Value)} {i : Int} {t : Tok} {o : Option Int} (h : At l (Str.ofString "told") (.int i t)) (e : some i = o) : toldV l o := by subst e; exact ⟨t, h⟩
theorem told_none {l : List (Str × Value)} {o : Option Int} (h : At l (Str.ofString "told") .none) (e : o = none) : toldV l o := by subst e; exact h
def chNames : List Str := [Str.ofString "a", Str.ofString "x", Str.ofString "y", Str.ofString "stack", Str.ofString "carry", Str.ofString "over", Str.ofString "told", Str.ofString "other", Str.ofString "whole", Str.ofString "signed"]
def Keep (l l' : List (Str × Value)) : Prop := ∀ nm v, (chNames.any (nm == ·)) = false → At l nm v → At l' nm v
def sgn (a : Int) : Int := bif decide (127 < a) then a - 256 else a
def rWhole (ot a c : Int) : Int := a + ot + c
def rSigned (ot a c : Int) : Int := sgn a + sgn ot + c
def rOver (s : Int) : Int := bif (decide (s < -128) || decide (127 < s)) then 1 else 0
def reck (κ : Nat) (v : Int) (V : LV) : LV := match κ with
  | 0 => { V with a := v, told := some v }
  | 1 => { V with x := v, told := some v }
  | 2 => { V with y := v, told := some v }
  | 3 => { V with a := (rWhole v V.a V.c).fmod 256, c := bif decide (255 < rWhole v V.a V.c) then 1 else 0, o := rOver (rSigned v V.a V.c), told := some ((rWhole v V.a V.c).fmod 256) }
  | 4 => { V with a := (rWhole (255 - v) V.a V.c).fmod 256, c := bif decide (255 < rWhole (255 - v) V.a V.c) then 1 else 0, o := rOver (rSigned (255 - v) V.a V.c), told := some ((rWhole (255 - v) V.a V.c).fmod 256) }
  | 5 => { V with c := bif decide (v ≤ V.a) then 1 else 0, told := some ((V.a - v).fmod 256) }
  | 6 => { V with pl := V.pl.set v.toNat V.a }
  | 7 => { V with a := V.pl.getD v.toNat 0, told := some (V.pl.getD v.toNat 0) }
  | 8 => { V with pl := V.pl.set v.toNat ((V.pl.getD v.toNat 0 + 1).fmod 256), told := some ((V.pl.getD v.toNat 0 + 1).fmod 256) }
  | 9 => { V with c := V.a.fdiv 128, a := (2 * V.a).fmod 256, told := some ((2 * V.a).fmod 256) }
  | 10 => { V with c := V.a.fmod 2, a := V.a.fdiv 2, told := some (V.a.fdiv 2) }
  | 11 => { V with c := (2 * V.a + V.c).fdiv 256, a := (2 * V.a + V.c).fmod 256, told := some ((2 * V.a + V.c).fmod 256) }
  | 12 => { V with x := V.a, told := some V.a }
  | 13 => { V with pl := V.pl.set (256 + V.st).toNat V.a, st := (V.st - 1).fmod 256 }
  | 14 => { V with st := (V.st + 1).fmod 256, a := V.pl.getD (256 + (V.st + 1).fmod 256).toNat 0, told := some (V.pl.getD (256 + (V.st + 1).fmod 256).toNat 0) }
  | _ => { V with c := 1 }
section
variable {og o9 : OsState × Drawn} {g9 : Array GenState} {K : Frag} {n : Nat} {A : Around} {env : Env} {h₀ : Heap} {L x d M f Pl D : Addr} {rest r1 : List (Addr × Obj)} {l : List (Str × Value)} {S : MS} {s : Shared} {w : World} {prog : Program} {E : Value → Shared → Prop} {q : Str} {sc : Scope} {cd : Value} {Q : Value → Shared → Prop} {us : List Value} {ns : List Int} {cp : Nat} {a b k : Int} {t u : Tok} {pos : Pos}
theorem r_pitem {value slice : PySem.Expr} (ok : Ok og w x d M rest h₀ L l S s.heap (s.os, s.drawn) s.gens) (hm : (D, listOf us.toArray cp) ∈ rest) (hi : IntsAre us ns) (h0 : 0 ≤ k) (h1 : k < ns.length) (hfit : k < 2 ^ 63) (h : ∀ t, Q (.int (ns.getD k.toNat 0) t) s)
    (hs : subscripted slice false (.ref D) (.int k u) = operate [.ref D, .int k u] (getItem (.ref D) (.int k u)) := by with_unfolding_all rfl) :
    wpAny (model prog w) A (subscriptTail value slice (.ref D) (.int k u)) Q E s := by
  obtain ⟨F, k', v, dn, c, vs, N, hv, hi'⟩ := ok
  exact ksa_sub N (.tail _ (.tail _ (.tail _ hm))) hi h0 h1 hfit h hs
structure Ap2 (x d M Pl : Addr) (r1 : List (Addr × Obj)) : Prop where
  x : x ≠ Pl
  d : d ≠ Pl
  m : M ≠ Pl
  r : ∀ p ∈ r1, p.1 ≠ Pl
theorem r_pset {i : Int} {Q : Unit → Shared → Prop} (ap : Ap2 x d M Pl r1) (ok : Ok og w x d M ((Pl, listOf us.toArray cp) :: r1) h₀ L l S s.heap (s.os, s.drawn) s.gens) (hi : IntsAre us ns) (h0 : 0 ≤ k) (h1 : k < ns.length) (hfit : k < 2 ^ 63)
    (h : ∀ s' ws, Ok og w x d M ((Pl, listOf (List.toArray ws) cp) :: r1) h₀ L l S s'.heap (s'.os, s'.drawn) s'.gens → IntsAre ws (ns.set k.toNat i) → Q () s') : wpAny (model prog w) A (setItem (.ref Pl) (.int k t) (.int i u)) Q E s := by
  obtain ⟨F, k', v, dn, c, vs, N, hv, hi'⟩ := ok
  exact ksa_set F N (.tail ap.x (.tail ap.d (.tail ap.m (.head ap.r)))) hi h0 h1 hfit fun h' F' N' hi2 _ _ => h _ _ ⟨F', k', v, dn, c, vs, N', hv, hi'⟩ hi2
theorem r_pin {its : Array Value} {b : Bool} (ok : Ok og w x d M rest h₀ L l S s.heap (s.os, s.drawn) s.gens) (hm : (D, listOf its cp) ∈ rest) (hi : kf_ints its.toList = true) (e : its.toList.any (isInt k) = b) (h : Q (.bool b) s) : wpAny (model prog w) A (compareOp .In (.int k t) (.ref D)) Q E s := by
  obtain ⟨F, k', v, dn, c, vs, N, hv, hi'⟩ := ok
  exact kf_in N (.tail _ (.tail _ (.tail _ hm))) hi e h
theorem b_mul (ok : Ok og w x d M rest h₀ L l S s.heap (s.os, s.drawn) s.gens) (hm : IntMulOk a b) (h : ∀ t s', Ok og w x d M rest h₀ L l S s'.heap (s'.os, s'.drawn) s'.gens → Q (.int (a * b) t) s') : wpAny (model prog w) A (binaryOp .Mult (.int a t) (.int b u)) Q E s := P.mul_int (h _ _ ok) hm
theorem b_mod (ok : Ok og w x d M rest h₀ L l S s.heap (s.os, s.drawn) s.gens) (hb : b ≠ 0) (h : ∀ t s', Ok og w x d M rest h₀ L l S s'.heap (s'.os, s'.drawn) s'.gens → Q (.int (a.fmod b) t) s') : wpAny (model prog w) A (binaryOp .Mod (.int a t) (.int b u)) Q E s := mod_int' hb (h _ _ ok)
theorem b_fdiv (ok : Ok og w x d M rest h₀ L l S s.heap (s.os, s.drawn) s.gens) (hb : b ≠ 0) (hs : Builtin.divisionGoesByPylong a b = false) (h : ∀ t s', Ok og w x d M rest h₀ L l S s'.heap (s'.os, s'.drawn) s'.gens → Q (.int (a.fdiv b) t) s') : wpAny (model prog w) A (binaryOp .FloorDiv (.int a t) (.int b u)) Q E s := floordiv_int hb (h _ _ ok) (.inl hs)
theorem b_neg (ok : Ok og w x d M rest h₀ L l S s.heap (s.os, s.drawn) s.gens) (h : ∀ t s', Ok og w x d M rest h₀ L l S s'.heap (s'.os, s'.drawn) s'.gens → Q (.int (-a) t) s') : wpAny (model prog w) A (unaryOp .USub (.int a t)) Q E s := P.neg_int (h _ _ ok)
theorem r_ifx {test body orelse : PySem.Expr} {i1 i2 : Int} (ok : Ok og w x d M rest h₀ L l S s.heap (s.os, s.drawn) s.gens) (h : wpAny (model prog w) A (isTrue test env (eval test env)) (fun c s1 => wpAny (model prog w) A (eval body env) (fun v s' => (∃ t, v = .int i1 t) ∧ Ok og w x d M rest h₀ L l S s'.heap (s'.os, s'.drawn) s'.gens) (fun _ _ => False) s1 ∧
      wpAny (model prog w) A (eval orelse env) (fun v s' => (∃ t, v = .int i2 t) ∧ Ok og w x d M rest h₀ L l S s'.heap (s'.os, s'.drawn) s'.gens) (fun _ _ => False) s1 ∧ ∀ t s', Ok og w x d M rest h₀ L l S s'.heap (s'.os, s'.drawn) s'.gens → Q (.int (bif c then i1 else i2) t) s') E s) : wpAny (model prog w) A (eval (.IfExp test body orelse pos) env) Q E s := by
  refine IfExp_ (wpAny_mono h (fun c s1 h1 => ?_) fun _ _ e => e)
  obtain ⟨p1, p2, p3⟩ := h1
  cases c with
  | true => exact ite_tt (wpAny_mono p1 (fun v s' hv => by obtain ⟨⟨t, rfl⟩, ok⟩ := hv; exact p3 t s' ok) fun _ _ e => e.elim)
  | false => exact ite_ff (wpAny_mono p2 (fun v s' hv => by obtain ⟨⟨t, rfl⟩, ok⟩ := hv; exact p3 t s' ok) fun _ _ e => e.elim)
theorem r_ifo {y z body orelse : PySem.Expr} {p2 : Pos} (c1 c2 : Bool) (i1 i2 : Int) (ok : Ok og w x d M rest h₀ L l S s.heap (s.os, s.drawn) s.gens)
    (h1 : ∀ s0, Ok og w x d M rest h₀ L l S s0.heap (s0.os, s0.drawn) s0.gens → wpAny (model prog w) A (isTrue y env (eval y env)) (fun c s1 => c = c1 ∧ Ok og w x d M rest h₀ L l S s1.heap (s1.os, s1.drawn) s1.gens) (fun _ _ => False) s0)
    (h2 : ∀ s0, Ok og w x d M rest h₀ L l S s0.heap (s0.os, s0.drawn) s0.gens → wpAny (model prog w) A (isTrue z env (eval z env)) (fun c s1 => c = c2 ∧ Ok og w x d M rest h₀ L l S s1.heap (s1.os, s1.drawn) s1.gens) (fun _ _ => False) s0)
    (h3 : ∀ s0, Ok og w x d M rest h₀ L l S s0.heap (s0.os, s0.drawn) s0.gens → wpAny (model prog w) A (eval body env) (fun v s1 => (∃ t, v = .int i1 t) ∧ Ok og w x d M rest h₀ L l S s1.heap (s1.os, s1.drawn) s1.gens) (fun _ _ => False) s0)
    (h4 : ∀ s0, Ok og w x d M rest h₀ L l S s0.heap (s0.os, s0.drawn) s0.gens → wpAny (model prog w) A (eval orelse env) (fun v s1 => (∃ t, v = .int i2 t) ∧ Ok og w x d M rest h₀ L l S s1.heap (s1.os, s1.drawn) s1.gens) (fun _ _ => False) s0)
    (h5 : ∀ t s1, Ok og w x d M rest h₀ L l S s1.heap (s1.os, s1.drawn) s1.gens → Q (.int (bif (c1 || c2) then i1 else i2) t) s1) :
    wpAny (model prog w) A (eval (.IfExp (.BoolOp .Or [y, z] p2) body orelse pos) env) Q E s := by
  have yes : ∀ s0, (bif (c1 || c2) then i1 else i2) = i1 → Ok og w x d M rest h₀ L l S s0.heap (s0.os, s0.drawn) s0.gens → wpAny (model prog w) A (eval body env) Q E s0 := fun s0 e o => wpAny_mono (h3 s0 o) (fun v s1 hv => by obtain ⟨⟨t, rfl⟩, o1⟩ := hv; rw [← e]; exact h5 t s1 o1) fun _ _ e => e.elim
  have no : ∀ s0, (bif (c1 || c2) then i1 else i2) = i2 → Ok og w x d M rest h₀ L l S s0.heap (s0.os, s0.drawn) s0.gens → wpAny (model prog w) A (eval orelse env) Q E s0 := fun s0 e o => wpAny_mono (h4 s0 o) (fun v s1 hv => by obtain ⟨⟨t, rfl⟩, o1⟩ := hv; rw [← e]; exact h5 t s1 o1) fun _ _ e => e.elim
  refine IfExp_ (isTrue_or (wpAny_mono (h1 s ok) (fun c s1 hc => ?_) fun _ _ e => e.elim))
  obtain ⟨rfl, o1⟩ := hc
  cases c with
  | true => exact ite_tt (ite_tt (yes s1 rfl o1))
  | false =>
    refine ite_ff (isTrue_or (wpAny_mono (h2 s1 o1) (fun c' s2 hc' => ?_) fun _ _ e => e.elim))
    obtain ⟨rfl, o2⟩ := hc'
    cases c' with
    | true => exact ite_tt (ite_tt (yes s2 rfl o2))
    | false => exact ite_ff (isTrue_or_nil (ite_ff (no s2 rfl o2)))
theorem r_asub {o i : PySem.Expr} {v : Value} {Q : Unit → Shared → Prop} (h : wpAny (model prog w) A (eval o env) (fun ov s₁ => wpAny (model prog w) A (eval i env) (fun iv s₂ => wpAny (model prog w) A (setItem ov iv v) Q E s₂) E s₁) E s) : wpAny (model prog w) A (assign (.Subscript o i pos) env v) Q E s := by
  rw [assign_Subscript]
  exact wpAny_bind (wpAny_holding (wpAny_mono h (fun ov s₁ h₁ => wpAny_bind (wpAny_holding (wpAny_mono h₁ (fun iv s₂ h₂ => wpAny_bind (wpAny_standAt (wpAny_bind (wpAny_holding (wpAny_mono h₂ (fun _ s₃ h₃ => wpAny_release h₃) fun _ _ e => e))))) fun _ _ e => e))) fun _ _ e => e))
end
theorem and_nn {a b : Int} (ha : 0 ≤ a) (hb : 0 ≤ b) : bitAnd a b = ((a.toNat &&& b.toNat : Nat) : Int) := by
  unfold bitAnd
  rw [decide_eq_true ha, decide_eq_true hb]
theorem and_mask {k : Nat} {a : Int} (ha : 0 ≤ a) : bitAnd a ((2 ^ k - 1 : Nat) : Int) = ((a.toNat % 2 ^ k : Nat) : Int) := by
  rw [and_nn ha (Int.natCast_nonneg _), Int.toNat_natCast, Nat.and_two_pow_sub_one_eq_mod]
theorem and8 (a : Int) : bitAnd a 255 = a % 256 := by
  by_cases ha : 0 ≤ a
  · have := and_mask (k := 8) ha
    have e : ((2 ^ 8 - 1 : Nat) : Int) = 255 := rfl
    rw [e] at this
    rw [this]
    omega
  · unfold bitAnd
    rw [decide_eq_false ha, decide_eq_true (show (0 : Int) ≤ 255 by decide)]
    show (255 : Int) - (((255 : Int).toNat &&& (bitNot a).toNat : Nat) : Int) = _
    have e : ((255 : Int).toNat &&& (bitNot a).toNat) = (bitNot a).toNat % 256 := by
      rw [Nat.and_comm]
      exact Nat.and_two_pow_sub_one_eq_mod _ 8
    rw [e]
    unfold bitNot
    omega
theorem and16 {a : Int} (ha : 0 ≤ a) (hb : a < 65536) : bitAnd a 65535 = a := by
  have := and_mask (k := 16) ha
  have e : ((2 ^ 16 - 1 : Nat) : Int) = 65535 := rfl
  rw [e] at this
  rw [this]
  omega
/-- bit seven -/
theorem n128 (n : Nat) : n &&& 128 = 128 * (n / 128 % 2) := by
  have e : n &&& 128 = (n % 256) &&& 128 := by
    have := Nat.and_two_pow_sub_one_eq_mod n 8
    rw [show (2 ^ 8 : Nat) = 256 from rfl] at this
    rw [← this, Nat.and_assoc]
    rfl
  have h : ∀ r : Fin 256, r.val &&& 128 = 128 * (r.val / 128 % 2) := by decide +kernel
  have := h ⟨n % 256, Nat.mod_lt _ (by decide)⟩
  rw [e]
  simp only at this
  rw [this]
  omega
theorem and128 {a : Int} (ha : 0 ≤ a) : bitAnd a 128 = 128 * (a / 128 % 2) := by
  rw [and_nn ha (by decide), show (128 : Int).toNat = 128 from rfl, n128]
  omega
def pf (c z o m : Int) : Int := 48 + c + 2 * z + 64 * o + 128 * m
def Bit (x : Int) : Prop := x = 0 ∨ x = 1
theorem fin_of {a : Int} (h0 : 0 ≤ a) (h1 : a ≤ 255) : ∃ i : Fin 256, a = (i.val : Int) := ⟨⟨a.toNat, by omega⟩, by simp; omega⟩
theorem p_dec {c z o m : Int} (hc : Bit c) (hz : Bit z) (ho : Bit o) (hm : Bit m) : (bitAnd (pf c z o m) 8 != 0) = false := by
  rcases hc with rfl | rfl <;> rcases hz with rfl | rfl <;> rcases ho with rfl | rfl <;> rcases hm with rfl | rfl <;> decide
theorem p_195 {c z o m : Int} (hc : Bit c) (hz : Bit z) (ho : Bit o) (hm : Bit m) : bitAnd (pf c z o m) 195 = c + 2 * z + 64 * o + 128 * m := by
  rcases hc with rfl | rfl <;> rcases hz with rfl | rfl <;> rcases ho with rfl | rfl <;> rcases hm with rfl | rfl <;> decide
theorem p_1 {c z o m : Int} (hc : Bit c) (hz : Bit z) (ho : Bit o) (hm : Bit m) : bitAnd (pf c z o m) 1 = c := by
  rcases hc with rfl | rfl <;> rcases hz with rfl | rfl <;> rcases ho with rfl | rfl <;> rcases hm with rfl | rfl <;> decide
def zF (t : Int) : Int := bif (t == 0) then 1 else 0
/-- the pieces: with the bits N and Z wiped, then set -/
theorem p_nz {c z o m b : Int} (hc : Bit c) (hz : Bit z) (ho : Bit o) (hm : Bit m) (hb : Bit b) : bitOr (bitAnd (pf c z o m) (bitNot (bitOr 2 128))) (128 * b) = pf c 0 o b ∧ bitOr (bitAnd (pf c z o m) (bitNot (bitOr 2 128))) 2 = pf c 1 o 0 := by
  rcases hc with rfl | rfl <;> rcases hz with rfl | rfl <;> rcases ho with rfl | rfl <;> rcases hm with rfl | rfl <;> rcases hb with rfl | rfl <;> decide
theorem bit7 {v : Int} (h0 : 0 ≤ v) (h1 : v ≤ 255) : bitAnd v 128 = 128 * (v / 128) ∧ Bit (v / 128) := by
  rw [and128 h0]
  unfold Bit
  omega
theorem nz_pf {c z o m v : Int} (hc : Bit c) (hz : Bit z) (ho : Bit o) (hm : Bit m) (h0 : 0 ≤ v) (h1 : v ≤ 255) : nzF (pf c z o m) v = pf c (zF v) o (v / 128) := by
  unfold nzF zF
  obtain ⟨e, hb⟩ := bit7 h0 h1
  by_cases h : v = 0
  · subst h
    simpa using (p_nz hc hz ho hm (b := 0) (.inl rfl)).2
  · rw [if_neg h, e, (p_nz hc hz ho hm hb).1, show (v == 0) = false from beq_eq_false_iff_ne.mpr h]
    rfl
theorem inc_pf {c z o m v : Int} (hc : Bit c) (hz : Bit z) (ho : Bit o) (hm : Bit m) (h0 : 0 ≤ v) (h1 : v ≤ 255) : incF (pf c z o m) v = pf c (zF v) o (v / 128) := nz_pf hc hz ho hm h0 h1
theorem asl_all : ∀ i : Fin 256, ∀ c z o m : Fin 2, aslF (pf c.val z.val o.val m.val) i.val = pf ((i.val : Int).fdiv 128) (zF ((2 * (i.val : Int)).fmod 256)) o.val (((2 * (i.val : Int)).fmod 256).fdiv 128) := by decide +kernel
theorem lsr_all : ∀ i : Fin 256, ∀ c z o m : Fin 2, lsrF (pf c.val z.val o.val m.val) i.val = pf ((i.val : Int).fmod 2) (zF ((i.val : Int).fdiv 2)) o.val (((i.val : Int).fdiv 2).fdiv 128) := by decide +kernel
theorem rol_all : ∀ i : Fin 256, ∀ c z o m : Fin 2, rolC (pf c.val z.val o.val m.val) i.val = pf ((2 * (i.val : Int) + c.val).fdiv 256) z.val o.val m.val ∧ rolA (pf c.val z.val o.val m.val) i.val = (2 * (i.val : Int) + c.val).fmod 256 := by decide +kernel
theorem cmp_d : ∀ i : Fin 512, bitAnd ((i.val : Int) - 256) 128 = 128 * ((((i.val : Int) - 256).fmod 256).fdiv 128) := by decide +kernel
theorem cmp_p : ∀ c z o m b : Fin 2, bitOr (bitOr (bitAnd (pf c.val z.val o.val m.val) (bitNot (bitOr (bitOr 1 2) 128))) (bitOr 1 2)) (128 * (b.val : Int)) = pf 1 1 o.val b.val ∧ bitOr (bitOr (bitAnd (pf c.val z.val o.val m.val) (bitNot (bitOr (bitOr 1 2) 128))) 1) (128 * (b.val : Int)) = pf 1 0 o.val b.val ∧
    bitOr (bitAnd (pf c.val z.val o.val m.val) (bitNot (bitOr (bitOr 1 2) 128))) (128 * (b.val : Int)) = pf 0 0 o.val b.val := by decide +kernel
theorem adc_p : ∀ c z o m : Fin 2, bitAnd (pf c.val z.val o.val m.val) (bitNot (bitOr (bitOr (bitOr 1 64) 128) 2)) = 48 ∧ bitAnd (pf c.val z.val o.val m.val) (bitNot (bitOr (bitOr (bitOr 1 2) 64) 128)) = 48 := by decide +kernel
theorem or_p : ∀ o b : Fin 2, bitOr (48 + 64 * (o.val : Int)) 1 = 49 + 64 * (o.val : Int) ∧ bitOr 48 64 = 112 ∧ bitOr (48 + 64 * (o.val : Int)) 2 = 50 + 64 * (o.val : Int) ∧ bitOr (49 + 64 * (o.val : Int)) 2 = 51 + 64 * (o.val : Int) ∧ bitOr (50 + 64 * (o.val : Int)) 1 = 51 + 64 * (o.val : Int) ∧
    bitOr (48 + 64 * (o.val : Int)) (128 * (b.val : Int)) = 48 + 64 * (o.val : Int) + 128 * (b.val : Int) ∧ bitOr (49 + 64 * (o.val : Int)) (128 * (b.val : Int)) = 49 + 64 * (o.val : Int) + 128 * (b.val : Int) ∧ bitOr (50 + 64 * (o.val : Int)) (128 * (b.val : Int)) = 50 + 64 * (o.val : Int) + 128 * (b.val : Int) ∧ bitOr (51 + 64 * (o.val : Int)) (128 * (b.val : Int)) = 51 + 64 * (o.val : Int) + 128 * (b.val : Int) := by decide +kernel
theorem sec_all : ∀ c z o m : Fin 2, bitOr (pf c.val z.val o.val m.val) 1 = pf 1 z.val o.val m.val := by decide +kernel
theorem or_nn {a b : Int} (ha : 0 ≤ a) (hb : 0 ≤ b) : bitOr a b = ((a.toNat ||| b.toNat : Nat) : Int) := by
  have na : ¬ 0 ≤ bitNot a := by unfold bitNot; omega
  have nb : ¬ 0 ≤ bitNot b := by unfold bitNot; omega
  have ea : bitNot (bitNot a) = a := by unfold bitNot; omega
  have eb : bitNot (bitNot b) = b := by unfold bitNot; omega
  unfold bitOr bitAnd
  rw [decide_eq_false na, decide_eq_false nb]
  show bitNot (bitNot (((bitNot (bitNot a)).toNat ||| (bitNot (bitNot b)).toNat : Nat) : Int)) = _
  rw [ea, eb]
  unfold bitNot
  omega
theorem xor_nn {a b : Int} (ha : 0 ≤ a) (hb : 0 ≤ b) : bitXor a b = (((a.toNat ||| b.toNat) - (a.toNat &&& b.toNat) : Nat) : Int) := by
  unfold bitXor
  rw [or_nn ha hb, and_nn ha hb]
  have : a.toNat &&& b.toNat ≤ a.toNat ||| b.toNat := Nat.le_trans Nat.and_le_left Nat.left_le_or
  omega
theorem tab4 : ∀ p q : Fin 4, ((p.val ||| q.val) - (p.val &&& q.val)) % 2 = (p.val + q.val) % 2 ∧ ((p.val ||| q.val) - (p.val &&& q.val)) < 4 ∧ (p.val - (p.val &&& q.val)) % 2 = (p.val % 2) * (1 - q.val % 2) ∧ (p.val &&& q.val) % 2 = (p.val % 2) * (q.val % 2) := by decide +kernel
theorem xor7 {x y : Nat} (hx : x < 512) (hy : y < 512) : ((x ||| y) - (x &&& y)) / 128 % 2 = (x / 128 + y / 128) % 2 ∧ ((x ||| y) - (x &&& y)) < 512 := by
  have o1 := Nat.or_div_two_pow (a := x) (b := y) (n := 7)
  have o2 := Nat.or_mod_two_pow (a := x) (b := y) (n := 7)
  have a1 := Nat.and_div_two_pow (a := x) (b := y) (n := 7)
  have a2 := Nat.and_mod_two_pow (a := x) (b := y) (n := 7)
  rw [show (2 ^ 7 : Nat) = 128 from rfl] at o1 o2 a1 a2
  have l1 : (x % 128) &&& (y % 128) ≤ (x % 128) ||| (y % 128) := Nat.le_trans Nat.and_le_left Nat.left_le_or
  have l2 : (x / 128) &&& (y / 128) ≤ (x / 128) ||| (y / 128) := Nat.le_trans Nat.and_le_left Nat.left_le_or
  have t := tab4 ⟨x / 128, by omega⟩ ⟨y / 128, by omega⟩
  simp only at t
  obtain ⟨t1, t2, _, _⟩ := t
  have e : ((x ||| y) - (x &&& y)) / 128 = ((x / 128 ||| y / 128) - (x / 128 &&& y / 128)) := by omega
  rw [e, t1]
  omega
theorem nand7 {x y : Nat} (hx : x < 512) (hy : y < 512) : (x - (x &&& y)) / 128 % 2 = (x / 128 % 2) * (1 - y / 128 % 2) := by
  have a1 := Nat.and_div_two_pow (a := x) (b := y) (n := 7)
  have a2 := Nat.and_mod_two_pow (a := x) (b := y) (n := 7)
  rw [show (2 ^ 7 : Nat) = 128 from rfl] at a1 a2
  have l1 : (x % 128) &&& (y % 128) ≤ x % 128 := Nat.and_le_left
  have l2 : (x / 128) &&& (y / 128) ≤ x / 128 := Nat.and_le_left
  have t := tab4 ⟨x / 128, by omega⟩ ⟨y / 128, by omega⟩
  simp only at t
  obtain ⟨_, _, t3, _⟩ := t
  have e : (x - (x &&& y)) / 128 = (x / 128 - (x / 128 &&& y / 128)) := by omega
  rw [e, t3]
theorem and7 {x y : Nat} (hx : x < 512) (hy : y < 512) : (x &&& y) / 128 % 2 = (x / 128 % 2) * (y / 128 % 2) := by
  have a1 := Nat.and_div_two_pow (a := x) (b := y) (n := 7)
  rw [show (2 ^ 7 : Nat) = 128 from rfl] at a1
  have t := tab4 ⟨x / 128, by omega⟩ ⟨y / 128, by omega⟩
  simp only at t
  rw [a1, t.2.2.2]
theorem xor_lo {a b : Int} (ha : 0 ≤ a) (ha1 : a < 512) (hb : 0 ≤ b) (hb1 : b < 512) : ∃ n : Nat, bitXor a b = (n : Int) ∧ n < 512 ∧ (n : Int) / 128 % 2 = (a / 128 + b / 128) % 2 := by
  have := xor7 (x := a.toNat) (y := b.toNat) (by omega) (by omega)
  exact ⟨_, xor_nn ha hb, this.2, by omega⟩
/-- the overflow's bit -/
theorem adc_o {a v r : Int} (a0 : 0 ≤ a) (a1 : a ≤ 255) (v0 : 0 ≤ v) (v1 : v ≤ 255) (r0 : 0 ≤ r) (r1 : r < 512) : (bitAnd (bitAnd (bitNot (bitXor a v)) (bitXor a r)) 128 != 0) = decide ((a / 128 + v / 128) % 2 = 0 ∧ (a / 128 + r / 128) % 2 = 1) := by
  obtain ⟨m, em, hm, pm⟩ := xor_lo a0 (by omega : a < 512) v0 (by omega : v < 512)
  obtain ⟨n, en, hn, pn⟩ := xor_lo a0 (by omega : a < 512) r0 r1
  have e1 : bitAnd (bitNot (bitXor a v)) (bitXor a r) = ((n - (n &&& m) : Nat) : Int) := by
    rw [em, en]
    have nm : ¬ 0 ≤ bitNot (m : Int) := by unfold bitNot; omega
    unfold bitAnd
    rw [decide_eq_false nm, decide_eq_true (Int.natCast_nonneg n)]
    show ((n : Int)) - (((n : Int).toNat &&& (bitNot (bitNot (m : Int))).toNat : Nat) : Int) = _
    rw [show bitNot (bitNot (m : Int)) = m by unfold bitNot; omega, Int.toNat_natCast, Int.toNat_natCast]
    have : n &&& m ≤ n := Nat.and_le_left
    omega
  rw [e1, and128 (Int.natCast_nonneg _)]
  have k := nand7 hn hm
  have kk : (((n - (n &&& m) : Nat) : Int)) / 128 % 2 = ((n : Int) / 128 % 2) * (1 - (m : Int) / 128 % 2) := by
    have h2 : ((n - (n &&& m)) / 128 % 2 : Nat) = (((n - (n &&& m) : Nat) : Int) / 128 % 2).toNat := by omega
    rcases Nat.mod_two_eq_zero_or_one (m / 128) with q | q <;> rcases Nat.mod_two_eq_zero_or_one (n / 128) with q' | q' <;> rw [q, q'] at k <;> (have q1 : (m : Int) / 128 % 2 = ((m / 128 % 2 : Nat) : Int) := by omega) <;> (have q2 : (n : Int) / 128 % 2 = ((n / 128 % 2 : Nat) : Int) := by omega) <;> rw [q1, q2, q, q'] <;> omega
  rw [kk, pm, pn, Bool.eq_iff_iff]
  simp only [bne_iff_ne, ne_eq, decide_eq_true_eq]
  rcases Int.emod_two_eq (a / 128 + v / 128) with q | q <;> rcases Int.emod_two_eq (a / 128 + r / 128) with q' | q' <;> rw [q, q'] <;> simp
theorem sbc_o {a v r : Int} (a0 : 0 ≤ a) (a1 : a ≤ 255) (v0 : 0 ≤ v) (v1 : v ≤ 255) (r0 : 0 ≤ r) (r1 : r < 512) : (bitAnd (bitAnd (bitXor a v) (bitXor a r)) 128 != 0) = decide ((a / 128 + v / 128) % 2 = 1 ∧ (a / 128 + r / 128) % 2 = 1) := by
  obtain ⟨m, em, hm, pm⟩ := xor_lo a0 (by omega : a < 512) v0 (by omega : v < 512)
  obtain ⟨n, en, hn, pn⟩ := xor_lo a0 (by omega : a < 512) r0 r1
  rw [em, en, and_nn (Int.natCast_nonneg m) (Int.natCast_nonneg n), and128 (Int.natCast_nonneg _), Int.toNat_natCast, Int.toNat_natCast]
  have k := and7 hm hn
  have kk : (((m &&& n : Nat) : Int)) / 128 % 2 = ((m : Int) / 128 % 2) * ((n : Int) / 128 % 2) := by
    rcases Nat.mod_two_eq_zero_or_one (m / 128) with q | q <;> rcases Nat.mod_two_eq_zero_or_one (n / 128) with q' | q' <;> rw [q, q'] at k <;> (have q1 : (m : Int) / 128 % 2 = ((m / 128 % 2 : Nat) : Int) := by omega) <;> (have q2 : (n : Int) / 128 % 2 = ((n / 128 % 2 : Nat) : Int) := by omega) <;> rw [q1, q2, q, q'] <;> omega
  rw [kk, pm, pn, Bool.eq_iff_iff]
  simp only [bne_iff_ne, ne_eq, decide_eq_true_eq]
  rcases Int.emod_two_eq (a / 128 + v / 128) with q | q <;> rcases Int.emod_two_eq (a / 128 + r / 128) with q' | q' <;> rw [q, q'] <;> simp
theorem or_pB {o b : Int} (ho : Bit o) (hb : Bit b) : bitOr (48 + 64 * o) 1 = 49 + 64 * o ∧ bitOr (48 + 64 * o) 2 = 50 + 64 * o ∧ bitOr (49 + 64 * o) 2 = 51 + 64 * o ∧ bitOr (50 + 64 * o) 1 = 51 + 64 * o ∧
    bitOr (48 + 64 * o) (128 * b) = 48 + 64 * o + 128 * b ∧ bitOr (49 + 64 * o) (128 * b) = 49 + 64 * o + 128 * b ∧ bitOr (50 + 64 * o) (128 * b) = 50 + 64 * o + 128 * b ∧ bitOr (51 + 64 * o) (128 * b) = 51 + 64 * o + 128 * b := by
  rcases ho with rfl | rfl <;> rcases hb with rfl | rfl <;> decide
theorem adc_pB {c z o m : Int} (hc : Bit c) (hz : Bit z) (ho : Bit o) (hm : Bit m) : bitAnd (pf c z o m) (bitNot (bitOr (bitOr (bitOr 1 64) 128) 2)) = 48 ∧ bitAnd (pf c z o m) (bitNot (bitOr (bitOr (bitOr 1 2) 64) 128)) = 48 := by
  rcases hc with rfl | rfl <;> rcases hz with rfl | rfl <;> rcases ho with rfl | rfl <;> rcases hm with rfl | rfl <;> decide
theorem cmp_pB {c z o m b : Int} (hc : Bit c) (hz : Bit z) (ho : Bit o) (hm : Bit m) (hb : Bit b) : bitOr (bitOr (bitAnd (pf c z o m) (bitNot (bitOr (bitOr 1 2) 128))) (bitOr 1 2)) (128 * b) = pf 1 1 o b ∧ bitOr (bitOr (bitAnd (pf c z o m) (bitNot (bitOr (bitOr 1 2) 128))) 1) (128 * b) = pf 1 0 o b ∧
    bitOr (bitAnd (pf c z o m) (bitNot (bitOr (bitOr 1 2) 128))) (128 * b) = pf 0 0 o b := by
  rcases hc with rfl | rfl <;> rcases hz with rfl | rfl <;> rcases ho with rfl | rfl <;> rcases hm with rfl | rfl <;> rcases hb with rfl | rfl <;> decide
theorem rOver_bit (s : Int) : Bit (rOver s) := by
  unfold rOver Bit
  cases (decide (s < -128) || decide (127 < s)) <;> simp
theorem fmod256 (r : Int) : r.fmod 256 = r % 256 := Int.fmod_eq_emod_of_nonneg _ (by decide)
theorem fdiv128 (r : Int) : r.fdiv 128 = r / 128 := Int.fdiv_eq_ediv_of_nonneg _ (by decide)
theorem over_eq {a v c : Int} (a0 : 0 ≤ a) (a1 : a ≤ 255) (v0 : 0 ≤ v) (v1 : v ≤ 255) (hc : Bit c) : rOver (rSigned v a c) = bif decide ((a / 128 + v / 128) % 2 = 0 ∧ (a / 128 + (a + v + c) / 128) % 2 = 1) then 1 else 0 := by
  have ea : sgn a = a - 256 * (a / 128) := by
    unfold sgn
    by_cases h : 127 < a
    · rw [decide_eq_true h]; show a - 256 = _; omega
    · rw [decide_eq_false h]; show a = _; omega
  have ev : sgn v = v - 256 * (v / 128) := by
    unfold sgn
    by_cases h : 127 < v
    · rw [decide_eq_true h]; show v - 256 = _; omega
    · rw [decide_eq_false h]; show v = _; omega
  unfold rOver rSigned
  rw [ea, ev]
  congr 1
  rw [Bool.eq_iff_iff]
  simp only [Bool.or_eq_true, decide_eq_true_eq]
  clear ea ev
  have hcb : 0 ≤ c ∧ c ≤ 1 := by unfold Bit at hc; omega
  clear hc
  generalize hr : (a + v + c) / 128 = k
  have k0 : 128 * k ≤ a + v + c ∧ a + v + c < 128 * k + 128 := by omega
  have ha : a / 128 = 0 ∨ a / 128 = 1 := by omega
  have hv : v / 128 = 0 ∨ v / 128 = 1 := by omega
  have hk : k = 0 ∨ k = 1 ∨ k = 2 ∨ k = 3 := by omega
  rcases ha with ha | ha <;> rcases hv with hv | hv <;> rcases hk with rfl | rfl | rfl | rfl <;> rw [ha, hv] <;> omega
theorem adc_law {c z o m a v : Int} (hc : Bit c) (hz : Bit z) (ho : Bit o) (hm : Bit m) (a0 : 0 ≤ a) (a1 : a ≤ 255) (v0 : 0 ≤ v) (v1 : v ≤ 255) :
    adcD (pf c z o m) a v = (rWhole v a c).fmod 256 ∧ adcF (pf c z o m) a v = pf (bif decide (255 < rWhole v a c) then 1 else 0) (zF ((rWhole v a c).fmod 256)) (rOver (rSigned v a c)) (((rWhole v a c).fmod 256).fdiv 128) := by
  have hR : adcR (pf c z o m) a v = a + v + c := by
    unfold adcR
    rw [p_1 hc hz ho hm]
    rcases hc with rfl | rfl <;> simp <;> omega
  have hW : rWhole v a c = a + v + c := rfl
  have hcb : 0 ≤ c ∧ c ≤ 1 := by unfold Bit at hc; omega
  generalize hr : a + v + c = r at hR hW
  have r0 : 0 ≤ r := by omega
  have r1 : r < 512 := by omega
  have hD : adcD (pf c z o m) a v = r % 256 := by
    unfold adcD
    rw [hR]
    by_cases h : 255 < r
    · rw [decide_eq_true h]; exact and8 r
    · rw [decide_eq_false h]; show r = _; omega
  have hO : rOver (rSigned v a c) = bif decide ((a / 128 + v / 128) % 2 = 0 ∧ (a / 128 + r / 128) % 2 = 1) then 1 else 0 := by rw [over_eq a0 a1 v0 v1 hc, hr]
  have hV : adcV (pf c z o m) a v = 48 + 64 * rOver (rSigned v a c) := by
    unfold adcV
    rw [hR, adc_o a0 a1 v0 v1 r0 r1, (adc_pB hc hz ho hm).1, hO]
    cases decide ((a / 128 + v / 128) % 2 = 0 ∧ (a / 128 + r / 128) % 2 = 1) <;> decide
  have hob := rOver_bit (rSigned v a c)
  generalize rOver (rSigned v a c) = ov at hV hob
  rw [hW, fmod256, fdiv128]
  refine ⟨hD, ?_⟩
  have d0 : 0 ≤ r % 256 := by omega
  have d1 : r % 256 ≤ 255 := by omega
  obtain ⟨eb, hb⟩ := bit7 d0 d1
  obtain ⟨q1, q2, q3, q4, q5, q6, q7, q8⟩ := or_pB hob hb
  unfold adcF adcC zF
  rw [hD, hR, hV, eb]
  unfold pf
  by_cases h : 255 < r
  · rw [decide_eq_true h]
    simp only [cond_true, q1]
    cases hz0 : (r % 256 == 0) with
    | true =>
      have : r % 256 = 0 := by simpa using hz0
      simp only [cond_true, q3]
      omega
    | false =>
      simp only [cond_false, q6]
      omega
  · rw [decide_eq_false h]
    simp only [cond_false]
    cases hz0 : (r % 256 == 0) with
    | true =>
      have : r % 256 = 0 := by simpa using hz0
      simp only [cond_true, q2]
      omega
    | false =>
      simp only [cond_false, q5]
      omega
theorem sbc_law {c z o m a v : Int} (hc : Bit c) (hz : Bit z) (ho : Bit o) (hm : Bit m) (a0 : 0 ≤ a) (a1 : a ≤ 255) (v0 : 0 ≤ v) (v1 : v ≤ 255) :
    sbcD (pf c z o m) a v = (rWhole (255 - v) a c).fmod 256 ∧ sbcF (pf c z o m) a v = pf (bif decide (255 < rWhole (255 - v) a c) then 1 else 0) (zF ((rWhole (255 - v) a c).fmod 256)) (rOver (rSigned (255 - v) a c)) (((rWhole (255 - v) a c).fmod 256).fdiv 128) := by
  have hR : sbcR (pf c z o m) a v = a + (255 - v) + c := by
    unfold sbcR
    rw [p_1 hc hz ho hm, and8]
    unfold bitNot
    omega
  have hW : rWhole (255 - v) a c = a + (255 - v) + c := rfl
  have hcb : 0 ≤ c ∧ c ≤ 1 := by unfold Bit at hc; omega
  generalize hr : a + (255 - v) + c = r at hR hW
  have r0 : 0 ≤ r := by omega
  have r1 : r < 512 := by omega
  have hD : sbcD (pf c z o m) a v = r % 256 := by
    unfold sbcD
    rw [hR]
    exact and8 r
  have hO : rOver (rSigned (255 - v) a c) = bif decide ((a / 128 + v / 128) % 2 = 1 ∧ (a / 128 + r / 128) % 2 = 1) then 1 else 0 := by
    rw [over_eq a0 a1 (by omega) (by omega) hc, hr]
    congr 2
    rw [eq_iff_iff]
    omega
  have hV : sbcV (pf c z o m) a v = 48 + 64 * rOver (rSigned (255 - v) a c) := by
    unfold sbcV
    rw [hR, sbc_o a0 a1 v0 v1 r0 r1, (adc_pB hc hz ho hm).2, hO]
    cases decide ((a / 128 + v / 128) % 2 = 1 ∧ (a / 128 + r / 128) % 2 = 1) <;> decide
  have hob := rOver_bit (rSigned (255 - v) a c)
  generalize rOver (rSigned (255 - v) a c) = ov at hV hob
  rw [hW, fmod256, fdiv128]
  refine ⟨hD, ?_⟩
  have d0 : 0 ≤ r % 256 := by omega
  have d1 : r % 256 ≤ 255 := by omega
  obtain ⟨eb, hb⟩ := bit7 d0 d1
  obtain ⟨q1, q2, q3, q4, q5, q6, q7, q8⟩ := or_pB hob hb
  unfold sbcF sbcC sbcZ zF gt255
  rw [hD, hR, hV, eb]
  unfold pf
  by_cases h : 255 < r
  · rw [decide_eq_true h]
    simp only [cond_true]
    cases hz0 : (r % 256 == 0) with
    | true =>
      simp only [cond_true, q2, q4, q8]
      omega
    | false =>
      simp only [cond_false, q1, q6]
      omega
  · rw [decide_eq_false h]
    simp only [cond_false]
    cases hz0 : (r % 256 == 0) with
    | true =>
      simp only [cond_true, q2, q7]
      omega
    | false =>
      simp only [cond_false, q5]
      omega
theorem cmp_law {c z o m a v : Int} (hc : Bit c) (hz : Bit z) (ho : Bit o) (hm : Bit m) (a0 : 0 ≤ a) (a1 : a ≤ 255) (v0 : 0 ≤ v) (v1 : v ≤ 255) :
    cmpF (pf c z o m) a v = pf (bif decide (v ≤ a) then 1 else 0) (zF ((a - v).fmod 256)) o (((a - v).fmod 256).fdiv 128) := by
  have hd := cmp_d ⟨(a - v + 256).toNat, by omega⟩
  simp only at hd
  rw [show (((a - v + 256).toNat : Nat) : Int) - 256 = a - v by omega] at hd
  have e256 := fmod256 (a - v)
  have e128 := fdiv128 ((a - v).fmod 256)
  have hb : Bit (((a - v).fmod 256).fdiv 128) := by rw [e128, e256]; unfold Bit; omega
  obtain ⟨q1, q2, q3⟩ := cmp_pB hc hz ho hm hb
  unfold cmpF
  rw [hd]
  by_cases h : a = v
  · rw [if_pos h, q1, decide_eq_true (show v ≤ a by omega)]
    have : (a - v).fmod 256 = 0 := by rw [e256]; omega
    rw [this]; rfl
  · have hz0 : ((a - v).fmod 256 == 0) = false := by
      rw [beq_eq_false_iff_ne]
      rw [e256]
      omega
    rw [if_neg h]
    by_cases h' : a > v
    · rw [if_pos h', q2, decide_eq_true (show v ≤ a by omega)]
      unfold zF
      rw [hz0]; rfl
    · rw [if_neg h', q3, decide_eq_false (show ¬ v ≤ a by omega)]
      unfold zF
      rw [hz0]; rfl
def stepS (κ : Nat) (v : Int) (S : MS) : MS := match κ with
  | 0 => { S with ex := 0, pc := S.pc + 1 + 1, a := v, p := nzF S.p v }
  | 1 => { S with ex := 0, pc := S.pc + 1 + 1, x := v, p := nzF S.p v }
  | 2 => { S with ex := 0, pc := S.pc + 1 + 1, y := v, p := nzF S.p v }
  | 3 => { S with ex := 0, pc := S.pc + 1 + 1, a := adcD S.p S.a v, p := adcF S.p S.a v }
  | 4 => { S with ex := 0, pc := S.pc + 1 + 1, a := sbcD S.p S.a v, p := sbcF S.p S.a v }
  | 5 => { S with ex := 0, pc := S.pc + 1 + 1, p := cmpF S.p S.a v }
  | 6 => { S with ex := 0, pc := S.pc + 1 + 1, mem := S.mem.set v.toNat S.a }
  | 7 => { S with ex := 0, pc := S.pc + 1 + 1, a := S.mem.getD v.toNat 0, p := nzF S.p (S.mem.getD v.toNat 0) }
  | 8 => { S with ex := 0, pc := S.pc + 1 + 1, mem := S.mem.set v.toNat (bitAnd (S.mem.getD v.toNat 0 + 1) 255), p := incF S.p (bitAnd (S.mem.getD v.toNat 0 + 1) 255) }
  | 9 => { S with ex := 0, pc := S.pc + 1, a := bitAnd (S.a * 2) 255, p := aslF S.p S.a }
  | 10 => { S with ex := 0, pc := S.pc + 1, a := S.a.fdiv 2, p := lsrF S.p S.a }
  | 11 => { S with ex := 0, pc := S.pc + 1, a := rolA S.p S.a, p := nzF (rolC S.p S.a) (rolA S.p S.a) }
  | 12 => { S with ex := 0, pc := S.pc + 1, x := S.a, p := nzF S.p S.a }
  | 13 => { S with ex := 0, pc := S.pc + 1, mem := S.mem.set (S.sp + 256).toNat (bitAnd S.a 255), sp := bitAnd (S.sp - 1) 255 }
  | 14 => { S with ex := 0, pc := S.pc + 1, sp := bitAnd (S.sp + 1) 255, a := S.mem.getD (bitAnd (S.sp + 1) 255 + 256).toNat 0, p := nzF S.p (S.mem.getD (bitAnd (S.sp + 1) 255 + 256).toNat 0) }
  | _ => { S with ex := 0, pc := S.pc + 1, p := bitOr S.p 1 }
/-- what a step asks of the machine -/
structure Fit (S : MS) : Prop where
  len : S.mem.length = 768
  pc0 : 0 ≤ S.pc
  pc1 : S.pc + 1 < 768
  a0 : 0 ≤ S.a
  a1 : S.a ≤ 255
  p0 : 0 ≤ S.sp
  p1 : S.sp ≤ 255
  dec : (bitAnd S.p 8 != 0) = false
section
variable {og o9 : OsState × Drawn} {g9 : Array GenState} {K : Frag} {n : Nat} {A : Around} {h₀ : Heap} {L x d M f : Addr} {rest : List (Addr × Obj)} {l : List (Str × Value)} {S : MS} {s : Shared} {w : World} {prog : Program} {E : Value → Shared → Prop} {q : Str} {cd : Value} {Q : Flow → Shared → Prop} {v : Int}
theorem st_0 (kf : KF K) (cx : Cx K n A (envOf q (lawD pw).scope L f cd) h₀ L) (hn : n < 50) (ap : Ap x d M rest) (ok : Ok og w x d M rest h₀ L l S s.heap (s.os, s.drawn) s.gens) (am : At l (Str.ofString "mpu") (.ref x)) (fit : Fit S) (hop : S.mem.getD S.pc.toNat 0 = 169)
    (hv : S.mem.getD (S.pc + 1).toNat 0 = v) (v0 : 0 ≤ v) (v1 : v < 256) (hq : ∀ s', Ok og w x d M rest h₀ L l (stepS 0 v S) s'.heap (s'.os, s'.drawn) s'.gens → Q .next s') :
    wpAny (model prog w) A (exec (nthS 0 (forBody pw 11)) (envOf q (lawD pw).scope L f cd)) Q E s := by
  have b0 := fit.pc0
  have b1 := fit.pc1
  refine wpAny_Expr_any ?_ (by kernel_rfl) (by kernel_rfl)
  refine r_mcall0 kf kf.m_step cx ok (fun _ _ => by kernel_rfl) am ?_
  dsimp only [List.cons_append, List.nil_append]
  refine wpAny_call ?_
  refine c_step kf (op := 169) (fi := 1051) (by decide) (by decide) hop (by decide) kf.m_inst_0xa9 fit.len b0 (by omega) (and16 (by omega) (by omega)) (d_0xa9 kf fit.len (by show 0 ≤ S.pc + 1; omega) (by show S.pc + 1 < 768; omega)) (and16 (by show 0 ≤ S.pc + 1 + 1; omega) (by show S.pc + 1 + 1 < 65536; omega)) cx (by omega) ap ok ?_
  intro s' ok'
  refine hq s' ?_
  dsimp only at ok'
  rw [hv] at ok'
  exact ok'
theorem st_1 (kf : KF K) (cx : Cx K n A (envOf q (lawD pw).scope L f cd) h₀ L) (hn : n < 50) (ap : Ap x d M rest) (ok : Ok og w x d M rest h₀ L l S s.heap (s.os, s.drawn) s.gens) (am : At l (Str.ofString "mpu") (.ref x)) (fit : Fit S) (hop : S.mem.getD S.pc.toNat 0 = 162)
    (hv : S.mem.getD (S.pc + 1).toNat 0 = v) (v0 : 0 ≤ v) (v1 : v < 256) (hq : ∀ s', Ok og w x d M rest h₀ L l (stepS 1 v S) s'.heap (s'.os, s'.drawn) s'.gens → Q .next s') :
    wpAny (model prog w) A (exec (nthS 0 (forBody pw 11)) (envOf q (lawD pw).scope L f cd)) Q E s := by
  have b0 := fit.pc0
  have b1 := fit.pc1
  refine wpAny_Expr_any ?_ (by kernel_rfl) (by kernel_rfl)
  refine r_mcall0 kf kf.m_step cx ok (fun _ _ => by kernel_rfl) am ?_
  dsimp only [List.cons_append, List.nil_append]
  refine wpAny_call ?_
  refine c_step kf (op := 162) (fi := 1016) (by decide) (by decide) hop (by decide) kf.m_inst_0xa2 fit.len b0 (by omega) (and16 (by omega) (by omega)) (d_0xa2 kf fit.len (by show 0 ≤ S.pc + 1; omega) (by show S.pc + 1 < 768; omega)) (and16 (by show 0 ≤ S.pc + 1 + 1; omega) (by show S.pc + 1 + 1 < 65536; omega)) cx (by omega) ap ok ?_
  intro s' ok'
  refine hq s' ?_
  dsimp only at ok'
  rw [hv] at ok'
  exact ok'
theorem st_2 (kf : KF K) (cx : Cx K n A (envOf q (lawD pw).scope L f cd) h₀ L) (hn : n < 50) (ap : Ap x d M rest) (ok : Ok og w x d M rest h₀ L l S s.heap (s.os, s.drawn) s.gens) (am : At l (Str.ofString "mpu") (.ref x)) (fit : Fit S) (hop : S.mem.getD S.pc.toNat 0 = 160)
    (hv : S.mem.getD (S.pc + 1).toNat 0 = v) (v0 : 0 ≤ v) (v1 : v < 256) (hq : ∀ s', Ok og w x d M rest h₀ L l (stepS 2 v S) s'.heap (s'.os, s'.drawn) s'.gens → Q .next s') :
    wpAny (model prog w) A (exec (nthS 0 (forBody pw 11)) (envOf q (lawD pw).scope L f cd)) Q E s := by
  have b0 := fit.pc0
  have b1 := fit.pc1
  refine wpAny_Expr_any ?_ (by kernel_rfl) (by kernel_rfl)
  refine r_mcall0 kf kf.m_step cx ok (fun _ _ => by kernel_rfl) am ?_
  dsimp only [List.cons_append, List.nil_append]
  refine wpAny_call ?_
  refine c_step kf (op := 160) (fi := 1002) (by decide) (by decide) hop (by decide) kf.m_inst_0xa0 fit.len b0 (by omega) (and16 (by omega) (by omega)) (d_0xa0 kf fit.len (by show 0 ≤ S.pc + 1; omega) (by show S.pc + 1 < 768; omega)) (and16 (by show 0 ≤ S.pc + 1 + 1; omega) (by show S.pc + 1 + 1 < 65536; omega)) cx (by omega) ap ok ?_
  intro s' ok'
  refine hq s' ?_
  dsimp only at ok'
  rw [hv] at ok'
  exact ok'
theorem st_3 (kf : KF K) (cx : Cx K n A (envOf q (lawD pw).scope L f cd) h₀ L) (hn : n < 50) (ap : Ap x d M rest) (ok : Ok og w x d M rest h₀ L l S s.heap (s.os, s.drawn) s.gens) (am : At l (Str.ofString "mpu") (.ref x)) (fit : Fit S) (hop : S.mem.getD S.pc.toNat 0 = 105)
    (hv : S.mem.getD (S.pc + 1).toNat 0 = v) (v0 : 0 ≤ v) (v1 : v < 256) (hq : ∀ s', Ok og w x d M rest h₀ L l (stepS 3 v S) s'.heap (s'.os, s'.drawn) s'.gens → Q .next s') :
    wpAny (model prog w) A (exec (nthS 0 (forBody pw 11)) (envOf q (lawD pw).scope L f cd)) Q E s := by
  have b0 := fit.pc0
  have b1 := fit.pc1
  refine wpAny_Expr_any ?_ (by kernel_rfl) (by kernel_rfl)
  refine r_mcall0 kf kf.m_step cx ok (fun _ _ => by kernel_rfl) am ?_
  dsimp only [List.cons_append, List.nil_append]
  refine wpAny_call ?_
  refine c_step kf (op := 105) (fi := 785) (by decide) (by decide) hop (by decide) kf.m_inst_0x69 fit.len b0 (by omega) (and16 (by omega) (by omega)) (d_0x69 kf fit.len (by show 0 ≤ S.pc + 1; omega) (by show S.pc + 1 < 768; omega) fit.dec) (and16 (by show 0 ≤ S.pc + 1 + 1; omega) (by show S.pc + 1 + 1 < 65536; omega)) cx (by omega) ap ok ?_
  intro s' ok'
  refine hq s' ?_
  dsimp only at ok'
  rw [hv] at ok'
  exact ok'
theorem st_4 (kf : KF K) (cx : Cx K n A (envOf q (lawD pw).scope L f cd) h₀ L) (hn : n < 50) (ap : Ap x d M rest) (ok : Ok og w x d M rest h₀ L l S s.heap (s.os, s.drawn) s.gens) (am : At l (Str.ofString "mpu") (.ref x)) (fit : Fit S) (hop : S.mem.getD S.pc.toNat 0 = 233)
    (hv : S.mem.getD (S.pc + 1).toNat 0 = v) (v0 : 0 ≤ v) (v1 : v < 256) (hq : ∀ s', Ok og w x d M rest h₀ L l (stepS 4 v S) s'.heap (s'.os, s'.drawn) s'.gens → Q .next s') :
    wpAny (model prog w) A (exec (nthS 0 (forBody pw 11)) (envOf q (lawD pw).scope L f cd)) Q E s := by
  have b0 := fit.pc0
  have b1 := fit.pc1
  refine wpAny_Expr_any ?_ (by kernel_rfl) (by kernel_rfl)
  refine r_mcall0 kf kf.m_step cx ok (fun _ _ => by kernel_rfl) am ?_
  dsimp only [List.cons_append, List.nil_append]
  refine wpAny_call ?_
  refine c_step kf (op := 233) (fi := 1338) (by decide) (by decide) hop (by decide) kf.m_inst_0xe9 fit.len b0 (by omega) (and16 (by omega) (by omega)) (d_0xe9 kf fit.len (by show 0 ≤ S.pc + 1; omega) (by show S.pc + 1 < 768; omega) fit.dec) (and16 (by show 0 ≤ S.pc + 1 + 1; omega) (by show S.pc + 1 + 1 < 65536; omega)) cx (by omega) ap ok ?_
  intro s' ok'
  refine hq s' ?_
  dsimp only at ok'
  rw [hv] at ok'
  exact ok'
theorem st_5 (kf : KF K) (cx : Cx K n A (envOf q (lawD pw).scope L f cd) h₀ L) (hn : n < 50) (ap : Ap x d M rest) (ok : Ok og w x d M rest h₀ L l S s.heap (s.os, s.drawn) s.gens) (am : At l (Str.ofString "mpu") (.ref x)) (fit : Fit S) (hop : S.mem.getD S.pc.toNat 0 = 201)
    (hv : S.mem.getD (S.pc + 1).toNat 0 = v) (v0 : 0 ≤ v) (v1 : v < 256) (hq : ∀ s', Ok og w x d M rest h₀ L l (stepS 5 v S) s'.heap (s'.os, s'.drawn) s'.gens → Q .next s') :
    wpAny (model prog w) A (exec (nthS 0 (forBody pw 11)) (envOf q (lawD pw).scope L f cd)) Q E s := by
  have b0 := fit.pc0
  have b1 := fit.pc1
  refine wpAny_Expr_any ?_ (by kernel_rfl) (by kernel_rfl)
  refine r_mcall0 kf kf.m_step cx ok (fun _ _ => by kernel_rfl) am ?_
  dsimp only [List.cons_append, List.nil_append]
  refine wpAny_call ?_
  refine c_step kf (op := 201) (fi := 1205) (by decide) (by decide) hop (by decide) kf.m_inst_0xc9 fit.len b0 (by omega) (and16 (by omega) (by omega)) (d_0xc9 kf fit.len (by show 0 ≤ S.pc + 1; omega) (by show S.pc + 1 < 768; omega)) (and16 (by show 0 ≤ S.pc + 1 + 1; omega) (by show S.pc + 1 + 1 < 65536; omega)) cx (by omega) ap ok ?_
  intro s' ok'
  refine hq s' ?_
  dsimp only at ok'
  rw [hv] at ok'
  exact ok'
theorem st_6 (kf : KF K) (cx : Cx K n A (envOf q (lawD pw).scope L f cd) h₀ L) (hn : n < 50) (ap : Ap x d M rest) (ok : Ok og w x d M rest h₀ L l S s.heap (s.os, s.drawn) s.gens) (am : At l (Str.ofString "mpu") (.ref x)) (fit : Fit S) (hop : S.mem.getD S.pc.toNat 0 = 133)
    (hv : S.mem.getD (S.pc + 1).toNat 0 = v) (v0 : 0 ≤ v) (v1 : v < 256) (hq : ∀ s', Ok og w x d M rest h₀ L l (stepS 6 v S) s'.heap (s'.os, s'.drawn) s'.gens → Q .next s') :
    wpAny (model prog w) A (exec (nthS 0 (forBody pw 11)) (envOf q (lawD pw).scope L f cd)) Q E s := by
  have b0 := fit.pc0
  have b1 := fit.pc1
  refine wpAny_Expr_any ?_ (by kernel_rfl) (by kernel_rfl)
  refine r_mcall0 kf kf.m_step cx ok (fun _ _ => by kernel_rfl) am ?_
  dsimp only [List.cons_append, List.nil_append]
  refine wpAny_call ?_
  refine c_step kf (op := 133) (fi := 890) (by decide) (by decide) hop (by decide) kf.m_inst_0x85 fit.len b0 (by omega) (and16 (by omega) (by omega)) (d_0x85 kf fit.len (by show 0 ≤ S.pc + 1; omega) (by show S.pc + 1 < 768; omega) (by show 0 ≤ S.mem.getD (S.pc + 1).toNat 0; rw [hv]; exact v0) (by show S.mem.getD (S.pc + 1).toNat 0 < 768; rw [hv]; omega)) (and16 (by show 0 ≤ S.pc + 1 + 1; omega) (by show S.pc + 1 + 1 < 65536; omega)) cx (by omega) ap ok ?_
  intro s' ok'
  refine hq s' ?_
  dsimp only at ok'
  rw [hv] at ok'
  exact ok'
theorem st_7 (kf : KF K) (cx : Cx K n A (envOf q (lawD pw).scope L f cd) h₀ L) (hn : n < 50) (ap : Ap x d M rest) (ok : Ok og w x d M rest h₀ L l S s.heap (s.os, s.drawn) s.gens) (am : At l (Str.ofString "mpu") (.ref x)) (fit : Fit S) (hop : S.mem.getD S.pc.toNat 0 = 165)
    (hv : S.mem.getD (S.pc + 1).toNat 0 = v) (v0 : 0 ≤ v) (v1 : v < 256) (hq : ∀ s', Ok og w x d M rest h₀ L l (stepS 7 v S) s'.heap (s'.os, s'.drawn) s'.gens → Q .next s') :
    wpAny (model prog w) A (exec (nthS 0 (forBody pw 11)) (envOf q (lawD pw).scope L f cd)) Q E s := by
  have b0 := fit.pc0
  have b1 := fit.pc1
  refine wpAny_Expr_any ?_ (by kernel_rfl) (by kernel_rfl)
  refine r_mcall0 kf kf.m_step cx ok (fun _ _ => by kernel_rfl) am ?_
  dsimp only [List.cons_append, List.nil_append]
  refine wpAny_call ?_
  refine c_step kf (op := 165) (fi := 1030) (by decide) (by decide) hop (by decide) kf.m_inst_0xa5 fit.len b0 (by omega) (and16 (by omega) (by omega)) (d_0xa5 kf fit.len (by show 0 ≤ S.pc + 1; omega) (by show S.pc + 1 < 768; omega) (by show 0 ≤ S.mem.getD (S.pc + 1).toNat 0; rw [hv]; exact v0) (by show S.mem.getD (S.pc + 1).toNat 0 < 768; rw [hv]; omega)) (and16 (by show 0 ≤ S.pc + 1 + 1; omega) (by show S.pc + 1 + 1 < 65536; omega)) cx (by omega) ap ok ?_
  intro s' ok'
  refine hq s' ?_
  dsimp only at ok'
  rw [hv] at ok'
  exact ok'
theorem st_8 (kf : KF K) (cx : Cx K n A (envOf q (lawD pw).scope L f cd) h₀ L) (hn : n < 50) (ap : Ap x d M rest) (ok : Ok og w x d M rest h₀ L l S s.heap (s.os, s.drawn) s.gens) (am : At l (Str.ofString "mpu") (.ref x)) (fit : Fit S) (hop : S.mem.getD S.pc.toNat 0 = 230)
    (hv : S.mem.getD (S.pc + 1).toNat 0 = v) (v0 : 0 ≤ v) (v1 : v < 256) (hq : ∀ s', Ok og w x d M rest h₀ L l (stepS 8 v S) s'.heap (s'.os, s'.drawn) s'.gens → Q .next s') :
    wpAny (model prog w) A (exec (nthS 0 (forBody pw 11)) (envOf q (lawD pw).scope L f cd)) Q E s := by
  have b0 := fit.pc0
  have b1 := fit.pc1
  refine wpAny_Expr_any ?_ (by kernel_rfl) (by kernel_rfl)
  refine r_mcall0 kf kf.m_step cx ok (fun _ _ => by kernel_rfl) am ?_
  dsimp only [List.cons_append, List.nil_append]
  refine wpAny_call ?_
  refine c_step kf (op := 230) (fi := 1324) (by decide) (by decide) hop (by decide) kf.m_inst_0xe6 fit.len b0 (by omega) (and16 (by omega) (by omega)) (d_0xe6 kf fit.len (by show 0 ≤ S.pc + 1; omega) (by show S.pc + 1 < 768; omega) (by show 0 ≤ S.mem.getD (S.pc + 1).toNat 0; rw [hv]; exact v0) (by show S.mem.getD (S.pc + 1).toNat 0 < 768; rw [hv]; omega)) (and16 (by show 0 ≤ S.pc + 1 + 1; omega) (by show S.pc + 1 + 1 < 65536; omega)) cx (by omega) ap ok ?_
  intro s' ok'
  refine hq s' ?_
  dsimp only at ok'
  rw [hv] at ok'
  exact ok'
theorem st_9 (kf : KF K) (cx : Cx K n A (envOf q (lawD pw).scope L f cd) h₀ L) (hn : n < 50) (ap : Ap x d M rest) (ok : Ok og w x d M rest h₀ L l S s.heap (s.os, s.drawn) s.gens) (am : At l (Str.ofString "mpu") (.ref x)) (fit : Fit S) (hop : S.mem.getD S.pc.toNat 0 = 10)
    (v0 : 0 ≤ v) (v1 : v < 256) (hq : ∀ s', Ok og w x d M rest h₀ L l (stepS 9 v S) s'.heap (s'.os, s'.drawn) s'.gens → Q .next s') :
    wpAny (model prog w) A (exec (nthS 0 (forBody pw 11)) (envOf q (lawD pw).scope L f cd)) Q E s := by
  have b0 := fit.pc0
  have b1 := fit.pc1
  refine wpAny_Expr_any ?_ (by kernel_rfl) (by kernel_rfl)
  refine r_mcall0 kf kf.m_step cx ok (fun _ _ => by kernel_rfl) am ?_
  dsimp only [List.cons_append, List.nil_append]
  refine wpAny_call ?_
  refine c_step kf (op := 10) (fi := 414) (by decide) (by decide) hop (by decide) kf.m_inst_0x0a fit.len b0 (by omega) (and16 (by omega) (by omega)) (d_0x0a kf fit.a0 fit.a1) (and16 (by show 0 ≤ S.pc + 1; omega) (by show S.pc + 1 < 65536; omega)) cx (by omega) ap ok ?_
  intro s' ok'
  refine hq s' ?_
  skip
  skip
  exact ok'
theorem st_10 (kf : KF K) (cx : Cx K n A (envOf q (lawD pw).scope L f cd) h₀ L) (hn : n < 50) (ap : Ap x d M rest) (ok : Ok og w x d M rest h₀ L l S s.heap (s.os, s.drawn) s.gens) (am : At l (Str.ofString "mpu") (.ref x)) (fit : Fit S) (hop : S.mem.getD S.pc.toNat 0 = 74)
    (v0 : 0 ≤ v) (v1 : v < 256) (hq : ∀ s', Ok og w x d M rest h₀ L l (stepS 10 v S) s'.heap (s'.os, s'.drawn) s'.gens → Q .next s') :
    wpAny (model prog w) A (exec (nthS 0 (forBody pw 11)) (envOf q (lawD pw).scope L f cd)) Q E s := by
  have b0 := fit.pc0
  have b1 := fit.pc1
  refine wpAny_Expr_any ?_ (by kernel_rfl) (by kernel_rfl)
  refine r_mcall0 kf kf.m_step cx ok (fun _ _ => by kernel_rfl) am ?_
  dsimp only [List.cons_append, List.nil_append]
  refine wpAny_call ?_
  refine c_step kf (op := 74) (fi := 666) (by decide) (by decide) hop (by decide) kf.m_inst_0x4a fit.len b0 (by omega) (and16 (by omega) (by omega)) (d_0x4a kf fit.a0 fit.a1) (and16 (by show 0 ≤ S.pc + 1; omega) (by show S.pc + 1 < 65536; omega)) cx (by omega) ap ok ?_
  intro s' ok'
  refine hq s' ?_
  skip
  skip
  exact ok'
theorem st_11 (kf : KF K) (cx : Cx K n A (envOf q (lawD pw).scope L f cd) h₀ L) (hn : n < 50) (ap : Ap x d M rest) (ok : Ok og w x d M rest h₀ L l S s.heap (s.os, s.drawn) s.gens) (am : At l (Str.ofString "mpu") (.ref x)) (fit : Fit S) (hop : S.mem.getD S.pc.toNat 0 = 42)
    (v0 : 0 ≤ v) (v1 : v < 256) (hq : ∀ s', Ok og w x d M rest h₀ L l (stepS 11 v S) s'.heap (s'.os, s'.drawn) s'.gens → Q .next s') :
    wpAny (model prog w) A (exec (nthS 0 (forBody pw 11)) (envOf q (lawD pw).scope L f cd)) Q E s := by
  have b0 := fit.pc0
  have b1 := fit.pc1
  refine wpAny_Expr_any ?_ (by kernel_rfl) (by kernel_rfl)
  refine r_mcall0 kf kf.m_step cx ok (fun _ _ => by kernel_rfl) am ?_
  dsimp only [List.cons_append, List.nil_append]
  refine wpAny_call ?_
  refine c_step kf (op := 42) (fi := 540) (by decide) (by decide) hop (by decide) kf.m_inst_0x2a fit.len b0 (by omega) (and16 (by omega) (by omega)) (d_0x2a kf fit.a0 fit.a1) (and16 (by show 0 ≤ S.pc + 1; omega) (by show S.pc + 1 < 65536; omega)) cx (by omega) ap ok ?_
  intro s' ok'
  refine hq s' ?_
  skip
  skip
  exact ok'
theorem st_12 (kf : KF K) (cx : Cx K n A (envOf q (lawD pw).scope L f cd) h₀ L) (hn : n < 50) (ap : Ap x d M rest) (ok : Ok og w x d M rest h₀ L l S s.heap (s.os, s.drawn) s.gens) (am : At l (Str.ofString "mpu") (.ref x)) (fit : Fit S) (hop : S.mem.getD S.pc.toNat 0 = 170)
    (v0 : 0 ≤ v) (v1 : v < 256) (hq : ∀ s', Ok og w x d M rest h₀ L l (stepS 12 v S) s'.heap (s'.os, s'.drawn) s'.gens → Q .next s') :
    wpAny (model prog w) A (exec (nthS 0 (forBody pw 11)) (envOf q (lawD pw).scope L f cd)) Q E s := by
  have b0 := fit.pc0
  have b1 := fit.pc1
  refine wpAny_Expr_any ?_ (by kernel_rfl) (by kernel_rfl)
  refine r_mcall0 kf kf.m_step cx ok (fun _ _ => by kernel_rfl) am ?_
  dsimp only [List.cons_append, List.nil_append]
  refine wpAny_call ?_
  refine c_step kf (op := 170) (fi := 1058) (by decide) (by decide) hop (by decide) kf.m_inst_0xaa fit.len b0 (by omega) (and16 (by omega) (by omega)) (d_0xaa kf ) (and16 (by show 0 ≤ S.pc + 1; omega) (by show S.pc + 1 < 65536; omega)) cx (by omega) ap ok ?_
  intro s' ok'
  refine hq s' ?_
  skip
  skip
  exact ok'
theorem st_13 (kf : KF K) (cx : Cx K n A (envOf q (lawD pw).scope L f cd) h₀ L) (hn : n < 50) (ap : Ap x d M rest) (ok : Ok og w x d M rest h₀ L l S s.heap (s.os, s.drawn) s.gens) (am : At l (Str.ofString "mpu") (.ref x)) (fit : Fit S) (hop : S.mem.getD S.pc.toNat 0 = 72)
    (v0 : 0 ≤ v) (v1 : v < 256) (hq : ∀ s', Ok og w x d M rest h₀ L l (stepS 13 v S) s'.heap (s'.os, s'.drawn) s'.gens → Q .next s') :
    wpAny (model prog w) A (exec (nthS 0 (forBody pw 11)) (envOf q (lawD pw).scope L f cd)) Q E s := by
  have b0 := fit.pc0
  have b1 := fit.pc1
  refine wpAny_Expr_any ?_ (by kernel_rfl) (by kernel_rfl)
  refine r_mcall0 kf kf.m_step cx ok (fun _ _ => by kernel_rfl) am ?_
  dsimp only [List.cons_append, List.nil_append]
  refine wpAny_call ?_
  refine c_step kf (op := 72) (fi := 652) (by decide) (by decide) hop (by decide) kf.m_inst_0x48 fit.len b0 (by omega) (and16 (by omega) (by omega)) (d_0x48 kf fit.len fit.p0 fit.p1) (and16 (by show 0 ≤ S.pc + 1; omega) (by show S.pc + 1 < 65536; omega)) cx (by omega) ap ok ?_
  intro s' ok'
  refine hq s' ?_
  skip
  skip
  exact ok'
theorem st_14 (kf : KF K) (cx : Cx K n A (envOf q (lawD pw).scope L f cd) h₀ L) (hn : n < 50) (ap : Ap x d M rest) (ok : Ok og w x d M rest h₀ L l S s.heap (s.os, s.drawn) s.gens) (am : At l (Str.ofString "mpu") (.ref x)) (fit : Fit S) (hop : S.mem.getD S.pc.toNat 0 = 104)
    (v0 : 0 ≤ v) (v1 : v < 256) (hq : ∀ s', Ok og w x d M rest h₀ L l (stepS 14 v S) s'.heap (s'.os, s'.drawn) s'.gens → Q .next s') :
    wpAny (model prog w) A (exec (nthS 0 (forBody pw 11)) (envOf q (lawD pw).scope L f cd)) Q E s := by
  have b0 := fit.pc0
  have b1 := fit.pc1
  refine wpAny_Expr_any ?_ (by kernel_rfl) (by kernel_rfl)
  refine r_mcall0 kf kf.m_step cx ok (fun _ _ => by kernel_rfl) am ?_
  dsimp only [List.cons_append, List.nil_append]
  refine wpAny_call ?_
  refine c_step kf (op := 104) (fi := 778) (by decide) (by decide) hop (by decide) kf.m_inst_0x68 fit.len b0 (by omega) (and16 (by omega) (by omega)) (d_0x68 kf fit.len (by show 0 ≤ bitAnd (S.sp + 1) 255; rw [and8]; omega) (by show bitAnd (S.sp + 1) 255 ≤ 255; rw [and8]; omega)) (and16 (by show 0 ≤ S.pc + 1; omega) (by show S.pc + 1 < 65536; omega)) cx (by omega) ap ok ?_
  intro s' ok'
  refine hq s' ?_
  skip
  skip
  exact ok'
theorem st_15 (kf : KF K) (cx : Cx K n A (envOf q (lawD pw).scope L f cd) h₀ L) (hn : n < 50) (ap : Ap x d M rest) (ok : Ok og w x d M rest h₀ L l S s.heap (s.os, s.drawn) s.gens) (am : At l (Str.ofString "mpu") (.ref x)) (fit : Fit S) (hop : S.mem.getD S.pc.toNat 0 = 56)
    (v0 : 0 ≤ v) (v1 : v < 256) (hq : ∀ s', Ok og w x d M rest h₀ L l (stepS 15 v S) s'.heap (s'.os, s'.drawn) s'.gens → Q .next s') :
    wpAny (model prog w) A (exec (nthS 0 (forBody pw 11)) (envOf q (lawD pw).scope L f cd)) Q E s := by
  have b0 := fit.pc0
  have b1 := fit.pc1
  refine wpAny_Expr_any ?_ (by kernel_rfl) (by kernel_rfl)
  refine r_mcall0 kf kf.m_step cx ok (fun _ _ => by kernel_rfl) am ?_
  dsimp only [List.cons_append, List.nil_append]
  refine wpAny_call ?_
  refine c_step kf (op := 56) (fi := 596) (by decide) (by decide) hop (by decide) kf.m_inst_0x38 fit.len b0 (by omega) (and16 (by omega) (by omega)) (d_0x38 kf ) (and16 (by show 0 ≤ S.pc + 1; omega) (by show S.pc + 1 < 65536; omega)) cx (by omega) ap ok ?_
  intro s' ok'
  refine hq s' ?_
  skip
  skip
  exact ok'
end
/-- the machine and the law's reckoning agree -/
structure Good (S : MS) (V : LV) (z m : Int) : Prop where
  a : S.a = V.a
  x : S.x = V.x
  y : S.y = V.y
  st : S.sp = V.st
  mem : S.mem = V.pl
  p : S.p = pf V.c z V.o m
  bc : Bit V.c
  bz : Bit z
  bo : Bit V.o
  bm : Bit m
  a0 : 0 ≤ V.a
  a1 : V.a ≤ 255
  s0 : 0 ≤ V.st
  s1 : V.st ≤ 255
  len : V.pl.length = 768
  oct : ∀ i, 0 ≤ V.pl.getD i 0 ∧ V.pl.getD i 0 ≤ 255
def zOf : Option Int → Int → Int
  | none, z => z
  | some t, _ => zF t
def mOf : Option Int → Int → Int
  | none, m => m
  | some t, _ => t.fdiv 128
theorem zF_bit (t : Int) : Bit (zF t) := by unfold zF Bit; cases (t == 0) <;> simp
theorem m_bit {t : Int} (h0 : 0 ≤ t) (h1 : t ≤ 255) : Bit (t.fdiv 128) := by rw [fdiv128]; unfold Bit; omega
theorem cond_bit (b : Bool) : Bit (bif b then 1 else 0) := by cases b <;> simp [Bit]
theorem bit_fin {c : Int} (h : Bit c) : ∃ i : Fin 2, c = (i.val : Int) := by rcases h with rfl | rfl; exact ⟨0, rfl⟩; exact ⟨1, rfl⟩
theorem oct_set {l : List Int} (h : ∀ i, 0 ≤ l.getD i 0 ∧ l.getD i 0 ≤ 255) {k : Nat} {v : Int} (h0 : 0 ≤ v) (h1 : v ≤ 255) : ∀ i, 0 ≤ (l.set k v).getD i 0 ∧ (l.set k v).getD i 0 ≤ 255 := by
  intro i
  have hi := h i
  simp only [List.getD_eq_getElem?_getD, List.getElem?_set] at hi ⊢
  by_cases e : k = i
  · rw [if_pos e]
    by_cases q : k < l.length
    · rw [if_pos q]; exact ⟨h0, h1⟩
    · rw [if_neg q]; simp
  · rw [if_neg e]; exact hi
theorem fm_lo (r : Int) : 0 ≤ r.fmod 256 ∧ r.fmod 256 ≤ 255 := by rw [fmod256]; omega
section
variable {S : MS} {V : LV} {z m v : Int}
theorem good_0 (g : Good S V z m) (v0 : 0 ≤ v) (v1 : v < 256) : Good (stepS 0 v S) (reck 0 v V) (zOf (reck 0 v V).told z) (mOf (reck 0 v V).told m) :=
  { g with a := rfl, p := by show nzF S.p v = pf V.c (zF v) V.o (v.fdiv 128); rw [g.p, nz_pf g.bc g.bz g.bo g.bm v0 (by omega), fdiv128], bz := zF_bit v, bm := m_bit v0 (by omega), a0 := v0, a1 := by show v ≤ 255; omega }
theorem good_1 (g : Good S V z m) (v0 : 0 ≤ v) (v1 : v < 256) : Good (stepS 1 v S) (reck 1 v V) (zOf (reck 1 v V).told z) (mOf (reck 1 v V).told m) :=
  { g with x := rfl, p := by show nzF S.p v = pf V.c (zF v) V.o (v.fdiv 128); rw [g.p, nz_pf g.bc g.bz g.bo g.bm v0 (by omega), fdiv128], bz := zF_bit v, bm := m_bit v0 (by omega) }
theorem good_2 (g : Good S V z m) (v0 : 0 ≤ v) (v1 : v < 256) : Good (stepS 2 v S) (reck 2 v V) (zOf (reck 2 v V).told z) (mOf (reck 2 v V).told m) :=
  { g with y := rfl, p := by show nzF S.p v = pf V.c (zF v) V.o (v.fdiv 128); rw [g.p, nz_pf g.bc g.bz g.bo g.bm v0 (by omega), fdiv128], bz := zF_bit v, bm := m_bit v0 (by omega) }
theorem good_3 (g : Good S V z m) (v0 : 0 ≤ v) (v1 : v < 256) : Good (stepS 3 v S) (reck 3 v V) (zOf (reck 3 v V).told z) (mOf (reck 3 v V).told m) := by
  have q := adc_law g.bc g.bz g.bo g.bm g.a0 g.a1 v0 (show v ≤ 255 by omega)
  have w := fm_lo (rWhole v V.a V.c)
  exact { g with a := by show adcD S.p S.a v = _; rw [g.p, g.a]; exact q.1, p := by show adcF S.p S.a v = _; rw [g.p, g.a]; exact q.2, bc := cond_bit _, bz := zF_bit _, bo := rOver_bit _, bm := m_bit w.1 w.2, a0 := w.1, a1 := w.2 }
theorem good_4 (g : Good S V z m) (v0 : 0 ≤ v) (v1 : v < 256) : Good (stepS 4 v S) (reck 4 v V) (zOf (reck 4 v V).told z) (mOf (reck 4 v V).told m) := by
  have q := sbc_law g.bc g.bz g.bo g.bm g.a0 g.a1 v0 (show v ≤ 255 by omega)
  have w := fm_lo (rWhole (255 - v) V.a V.c)
  exact { g with a := by show sbcD S.p S.a v = _; rw [g.p, g.a]; exact q.1, p := by show sbcF S.p S.a v = _; rw [g.p, g.a]; exact q.2, bc := cond_bit _, bz := zF_bit _, bo := rOver_bit _, bm := m_bit w.1 w.2, a0 := w.1, a1 := w.2 }
theorem good_5 (g : Good S V z m) (v0 : 0 ≤ v) (v1 : v < 256) : Good (stepS 5 v S) (reck 5 v V) (zOf (reck 5 v V).told z) (mOf (reck 5 v V).told m) := by
  have w := fm_lo (V.a - v)
  exact { g with p := by show cmpF S.p S.a v = _; rw [g.p, g.a]; exact cmp_law g.bc g.bz g.bo g.bm g.a0 g.a1 v0 (by omega), bc := cond_bit _, bz := zF_bit _, bm := m_bit w.1 w.2 }
theorem good_6 (g : Good S V z m) (ht : V.told = none) (v0 : 0 ≤ v) (v1 : v < 256) : Good (stepS 6 v S) (reck 6 v V) (zOf (reck 6 v V).told z) (mOf (reck 6 v V).told m) := by
  have e : (reck 6 v V).told = none := ht
  rw [e]
  exact { g with mem := by show S.mem.set v.toNat S.a = _; rw [g.mem, g.a]; rfl, len := by show (V.pl.set _ _).length = 768; rw [List.length_set]; exact g.len, oct := oct_set g.oct g.a0 g.a1 }
theorem good_7 (g : Good S V z m) (v0 : 0 ≤ v) (v1 : v < 256) : Good (stepS 7 v S) (reck 7 v V) (zOf (reck 7 v V).told z) (mOf (reck 7 v V).told m) := by
  have w := g.oct v.toNat
  exact { g with a := by show S.mem.getD v.toNat 0 = _; rw [g.mem]; rfl, p := by show nzF S.p (S.mem.getD v.toNat 0) = pf V.c (zF (V.pl.getD v.toNat 0)) V.o ((V.pl.getD v.toNat 0).fdiv 128); rw [g.p, g.mem, nz_pf g.bc g.bz g.bo g.bm w.1 w.2, fdiv128], bz := zF_bit _, bm := m_bit w.1 w.2, a0 := w.1, a1 := w.2 }
theorem good_8 (g : Good S V z m) (v0 : 0 ≤ v) (v1 : v < 256) : Good (stepS 8 v S) (reck 8 v V) (zOf (reck 8 v V).told z) (mOf (reck 8 v V).told m) := by
  have w := fm_lo (V.pl.getD v.toNat 0 + 1)
  have e : bitAnd (S.mem.getD v.toNat 0 + 1) 255 = (V.pl.getD v.toNat 0 + 1).fmod 256 := by rw [g.mem, and8, fmod256]
  exact { g with mem := by show S.mem.set v.toNat (bitAnd (S.mem.getD v.toNat 0 + 1) 255) = _; rw [e, g.mem]; rfl, p := by show incF S.p (bitAnd (S.mem.getD v.toNat 0 + 1) 255) = pf V.c (zF ((V.pl.getD v.toNat 0 + 1).fmod 256)) V.o (((V.pl.getD v.toNat 0 + 1).fmod 256).fdiv 128); rw [e, g.p, inc_pf g.bc g.bz g.bo g.bm w.1 w.2, fdiv128], bz := zF_bit _, bm := m_bit w.1 w.2, len := by show (V.pl.set _ _).length = 768; rw [List.length_set]; exact g.len, oct := oct_set g.oct w.1 w.2 }
theorem good_9 (g : Good S V z m) : Good (stepS 9 v S) (reck 9 v V) (zOf (reck 9 v V).told z) (mOf (reck 9 v V).told m) := by
  have w := fm_lo (2 * V.a)
  obtain ⟨i, hi⟩ := fin_of g.a0 g.a1
  obtain ⟨c', hc⟩ := bit_fin g.bc
  obtain ⟨z', hz⟩ := bit_fin g.bz
  obtain ⟨o', ho⟩ := bit_fin g.bo
  obtain ⟨m', hm⟩ := bit_fin g.bm
  have q := asl_all i c' z' o' m'
  rw [← hi, ← hc, ← hz, ← ho, ← hm] at q
  exact { g with a := by show bitAnd (S.a * 2) 255 = (2 * V.a).fmod 256; rw [g.a, and8, fmod256, Int.mul_comm], p := by show aslF S.p S.a = _; rw [g.p, g.a]; exact q, bc := m_bit g.a0 g.a1, bz := zF_bit _, bm := m_bit w.1 w.2, a0 := w.1, a1 := w.2 }
theorem good_10 (g : Good S V z m) : Good (stepS 10 v S) (reck 10 v V) (zOf (reck 10 v V).told z) (mOf (reck 10 v V).told m) := by
  have e2 : V.a.fdiv 2 = V.a / 2 := Int.fdiv_eq_ediv_of_nonneg _ (by decide)
  have e3 : V.a.fmod 2 = V.a % 2 := Int.fmod_eq_emod_of_nonneg _ (by decide)
  have w0 : 0 ≤ V.a.fdiv 2 := by have := g.a0; rw [e2]; omega
  have w1 : V.a.fdiv 2 ≤ 255 := by have := g.a1; rw [e2]; omega
  obtain ⟨i, hi⟩ := fin_of g.a0 g.a1
  obtain ⟨c', hc⟩ := bit_fin g.bc
  obtain ⟨z', hz⟩ := bit_fin g.bz
  obtain ⟨o', ho⟩ := bit_fin g.bo
  obtain ⟨m', hm⟩ := bit_fin g.bm
  have q := lsr_all i c' z' o' m'
  rw [← hi, ← hc, ← hz, ← ho, ← hm] at q
  exact { g with a := by show S.a.fdiv 2 = V.a.fdiv 2; rw [g.a], p := by show lsrF S.p S.a = _; rw [g.p, g.a]; exact q, bc := by show Bit (V.a.fmod 2); rw [e3]; unfold Bit; omega, bz := zF_bit _, bm := m_bit w0 w1, a0 := w0, a1 := w1 }
theorem good_11 (g : Good S V z m) : Good (stepS 11 v S) (reck 11 v V) (zOf (reck 11 v V).told z) (mOf (reck 11 v V).told m) := by
  have w := fm_lo (2 * V.a + V.c)
  have hcb : 0 ≤ V.c ∧ V.c ≤ 1 := by have := g.bc; unfold Bit at this; omega
  have b : Bit ((2 * V.a + V.c).fdiv 256) := by
    rw [Int.fdiv_eq_ediv_of_nonneg _ (by decide)]
    have := g.a0; have := g.a1
    unfold Bit; omega
  obtain ⟨i, hi⟩ := fin_of g.a0 g.a1
  obtain ⟨c', hc⟩ := bit_fin g.bc
  obtain ⟨z', hz⟩ := bit_fin g.bz
  obtain ⟨o', ho⟩ := bit_fin g.bo
  obtain ⟨m', hm⟩ := bit_fin g.bm
  have q := rol_all i c' z' o' m'
  rw [← hi, ← hc, ← hz, ← ho, ← hm] at q
  exact { g with a := by show rolA S.p S.a = _; rw [g.p, g.a]; exact q.2, p := by show nzF (rolC S.p S.a) (rolA S.p S.a) = pf ((2 * V.a + V.c).fdiv 256) (zF ((2 * V.a + V.c).fmod 256)) V.o (((2 * V.a + V.c).fmod 256).fdiv 128); rw [g.p, g.a, q.1, q.2, nz_pf b g.bz g.bo g.bm w.1 w.2, fdiv128], bc := b, bz := zF_bit _, bm := m_bit w.1 w.2, a0 := w.1, a1 := w.2 }
theorem good_12 (g : Good S V z m) : Good (stepS 12 v S) (reck 12 v V) (zOf (reck 12 v V).told z) (mOf (reck 12 v V).told m) :=
  { g with x := g.a, p := by show nzF S.p S.a = pf V.c (zF V.a) V.o (V.a.fdiv 128); rw [g.p, g.a, nz_pf g.bc g.bz g.bo g.bm g.a0 g.a1, fdiv128], bz := zF_bit _, bm := m_bit g.a0 g.a1 }
theorem good_13 (g : Good S V z m) (ht : V.told = none) : Good (stepS 13 v S) (reck 13 v V) (zOf (reck 13 v V).told z) (mOf (reck 13 v V).told m) := by
  have e : (reck 13 v V).told = none := ht
  have w := fm_lo (V.st - 1)
  rw [e]
  have h0 := g.a0
  have h1 := g.a1
  exact { g with st := by show bitAnd (S.sp - 1) 255 = (V.st - 1).fmod 256; rw [g.st, and8, fmod256], mem := by show S.mem.set (S.sp + 256).toNat (bitAnd S.a 255) = V.pl.set (256 + V.st).toNat V.a; rw [g.mem, g.st, g.a, and8, Int.add_comm, show V.a % 256 = V.a by omega], s0 := w.1, s1 := w.2, len := by show (V.pl.set _ _).length = 768; rw [List.length_set]; exact g.len, oct := oct_set g.oct g.a0 g.a1 }
theorem good_14 (g : Good S V z m) : Good (stepS 14 v S) (reck 14 v V) (zOf (reck 14 v V).told z) (mOf (reck 14 v V).told m) := by
  have w := fm_lo (V.st + 1)
  have e : bitAnd (S.sp + 1) 255 = (V.st + 1).fmod 256 := by rw [g.st, and8, fmod256]
  have e' : S.mem.getD (bitAnd (S.sp + 1) 255 + 256).toNat 0 = V.pl.getD (256 + (V.st + 1).fmod 256).toNat 0 := by rw [e, g.mem, Int.add_comm]
  have y := g.oct (256 + (V.st + 1).fmod 256).toNat
  exact { g with st := e, a := e', p := by show nzF S.p (S.mem.getD (bitAnd (S.sp + 1) 255 + 256).toNat 0) = pf V.c (zF (V.pl.getD (256 + (V.st + 1).fmod 256).toNat 0)) V.o ((V.pl.getD (256 + (V.st + 1).fmod 256).toNat 0).fdiv 128); rw [e', g.p, nz_pf g.bc g.bz g.bo g.bm y.1 y.2, fdiv128], bz := zF_bit _, bm := m_bit y.1 y.2, s0 := w.1, s1 := w.2, a0 := y.1, a1 := y.2 }
theorem good_15 (g : Good S V z m) (ht : V.told = none) : Good (stepS 15 v S) (reck 15 v V) (zOf (reck 15 v V).told z) (mOf (reck 15 v V).told m) := by
  have e : (reck 15 v V).told = none := ht
  rw [e]
  obtain ⟨c', hc⟩ := bit_fin g.bc
  obtain ⟨z', hz⟩ := bit_fin g.bz
  obtain ⟨o', ho⟩ := bit_fin g.bo
  obtain ⟨m', hm⟩ := bit_fin g.bm
  have q := sec_all c' z' o' m'
  rw [← hc, ← hz, ← ho, ← hm] at q
  exact { g with p := by show bitOr S.p 1 = _; rw [g.p]; exact q, bc := .inr rfl }
end
section
variable {og o9 : OsState × Drawn} {g9 : Array GenState} {K : Frag} {n : Nat} {A : Around} {env : Env} {h₀ : Heap} {L M : Addr} {news : List (Addr × Obj)} {l : List (Str × Value)} {s : Shared} {w : World} {prog : Program} {E : Value → Shared → Prop} {Q : Value → Shared → Prop} {t : Tok}
theorem c_make (ki : KI K) (kf : KF K) (cx : Cx K n A env h₀ L) (hn : n < 70) (lw : Lw og h₀ L l news s.heap (s.os, s.drawn) s.gens)
    (hq : ∀ x d v s', (∀ p ∈ news, p.1 < d) → d < x → (∀ mem, Vals v ⟨0, 0, 0, 255, 48, 512, 0, mem⟩ M) → Io og w x d news h₀ L l 16 v s'.heap (s'.os, s'.drawn) s'.gens → Q (.ref x) s') :
    wpAny (model prog w) A (call (.ref Cc) [] [(Str.ofString "memory", .ref M), (Str.ofString "pc", .int 512 t)]) Q E s := by
  obtain ⟨A₀, base, outer, B, hA⟩ := cx.B
  obtain ⟨p, loose, mean, mg, mb, T⟩ := cx.T
  obtain ⟨dfv, ho, hc, h29⟩ := ki.look
  refine call_cls lw.F cx.X lw.N ki.makes ki.ini ki.inif fun x d h' F N lt dx => ?_
  have ap : Iap x d news := ⟨Nat.ne_of_gt dx, fun p hp => Nat.ne_of_lt (lt p hp)⟩
  refine code_def (name := fName pw 15) (qual := qualM (fName pw 15)) (params := fPar pw 15) (body := fBody pw 15) (scope := fSc pw 15) (dV := .ref 29) (kV := .none) (doc := .none) (pm := modV) (an := none) (cdv := .ref 35) (ct := .none) (oc := tFun) (od := none) (osl := ⟨[]⟩)
    (binds := [(Str.ofString "self", .ref x), (Str.ofString "memory", .ref M), (Str.ofString "pc", .int 512 t)]) B F cx.X N T (by show pushEnvs [] A.frames = _; rw [hA]; rfl) cx.hf cx.hk ho hc ?_ (binds_K ((cx.X.keeps F.keep)) rfl h29 rfl rfl rfl) (locs (by kernel_rfl)) (fun g L' h₁ FG F' N' B' X' T' => ?_) (by kernel_rfl) (by kernel_rfl) (by kernel_rfl) (fun y hy => ?_)
  · have := cx.dep
    show A.depth + 1 < 1000
    omega
  · have hA' : (A.under (.builtin "type.__call__" ⟨[.ref Cc], [(Str.ofString "memory", .ref M), (Str.ofString "pc", .int 512 t)]⟩)).frames = some (env :: outer) := by
      show pushEnvs [] A.frames = _
      rw [hA]; rfl
    refine wpAny_mono (w_init (v := ⟨.none, .none, .none, .none, .none, .none, .none, .none, .none, .none, .none, .none, .none, .none, .none, .none⟩) (n := n + 2) ki kf ⟨⟨_, _, _, B', Around.frames_deeper hA'⟩, rfl, by kernel_rfl, X', ⟨_, _, _, _, _, T'⟩, ?_⟩ (by omega) ap ⟨F', ⟨fun _ => 0, 0, N'⟩, lw.O⟩) (fun fl s2 hl => ?_) fun _ _ h => h.elim
    · have := cx.dep
      show A.depth + 1 + 1 ≤ n + 2 + 400
      omega
    · obtain ⟨l', v', ⟨F2, ⟨k2, n2, N2⟩, iO2⟩, hr, hv⟩ := hl
      refine leaveK_ F2 N2 fun F3 N3 => ?_
      have z := hq x d v' s2 lt dx hv ⟨F3, ⟨k2, n2, N3⟩, iO2⟩
      cases fl with
      | ret r => exact ⟨hr, z⟩
      | _ => exact ⟨rfl, z⟩
  · have := List.all_eq_true.mp (show (fSc pw 15).names.all (fun x => x.2 != .cell) = true by kernel_rfl) y hy
    simpa using this
end
open PySem.SeqAt PyProof.V in
theorem shaped_tup (ns : List Int) : shaped (.tuple (ns.map PyData.int)) = true := by
  have h1 := PySem.W.depthAll_ints ns
  have h2 : PyData.depth (.tuple (ns.map PyData.int)) ≤ 64 := by simp only [PyData.depth]; omega
  show (PyData.canLay0 (.tuple (ns.map PyData.int)) && decide (PyData.depth (.tuple (ns.map PyData.int)) ≤ 64)) = true
  rw [Bool.and_eq_true]
  exact ⟨by simp only [PyData.canLay0]; exact canLayAll0_ints ns, decide_eq_true h2⟩
section
variable {og o9 : OsState × Drawn} {g9 : Array GenState} {K : Frag} {n : Nat} {A : Around} {env : Env} {h₀ : Heap} {L x d M f Pl D : Addr} {rest r1 : List (Addr × Obj)} {l : List (Str × Value)} {S : MS} {s : Shared} {w : World} {prog : Program} {E : Value → Shared → Prop} {q : Str} {sc : Scope} {cd : Value} {Q : Value → Shared → Prop} {us : List Value} {ns ms : List Int} {cp : Nat} {a b k : Int} {t u : Tok} {pos : Pos}
theorem r_newTuple {vs : List Value} (ap : Ap x d M rest) (ok : Ok og w x d M rest h₀ L l S s.heap (s.os, s.drawn) s.gens) (hz : vs.length ≤ sizeLine) (h : ∀ D s', Ap x d M ((D, ({ cls := .type "tuple", data := .seq vs.toArray } : Obj)) :: rest) → Ok og w x d M ((D, ({ cls := .type "tuple", data := .seq vs.toArray } : Obj)) :: rest) h₀ L l S s'.heap (s'.os, s'.drawn) s'.gens → Q (.ref D) s') : wpAny (model prog w) A (newTuple vs) Q E s := by
  obtain ⟨F, k, v, dn, c, us, N, hv, hi, ho9⟩ := ok
  refine kup_newTuple F N (fun D h' F' N' lt => ?_) hz
  have hd' := lt (d, _) (.tail _ (.head _))
  have hM' := lt (M, _) (.tail _ (.tail _ (.head _)))
  dsimp only at hd' hM'
  refine h D _ ⟨ap.xd, ap.Md, ap.xM, ?_, ?_⟩ ⟨F', k, v, dn, c, us, fun p hp => N' p ?_, hv, hi, ho9⟩
  · intro p hp
    rcases List.mem_cons.mp hp with rfl | hp
    · exact Nat.ne_of_gt hd'
    · exact ap.rd p hp
  · intro p hp
    rcases List.mem_cons.mp hp with rfl | hp
    · exact Nat.ne_of_gt hM'
    · exact ap.rM p hp
  · simp only [List.mem_cons] at hp ⊢
    rcases hp with e | e | e | e | e
    · exact .inr (.inl e)
    · exact .inr (.inr (.inl e))
    · exact .inr (.inr (.inr (.inl e)))
    · exact .inl e
    · exact .inr (.inr (.inr (.inr e)))
open PySem.SeqAt PyProof.V in
theorem r_netup {T1 T2 : Addr} {vs us : List Value} {c1 c2 : Nat} (hu : A.units + 64 < cLine) (ok : Ok og w x d M rest h₀ L l S s.heap (s.os, s.drawn) s.gens) (m1 : (T1, ({ cls := .type "tuple", data := .seq vs.toArray c1 } : Obj)) ∈ rest) (m2 : (T2, ({ cls := .type "tuple", data := .seq us.toArray c2 } : Obj)) ∈ rest) (hi : IntsAre vs ns) (hi' : IntsAre us ms)
    (h : Q (.bool (!decide (ns = ms))) s) : wpAny (model prog w) A (compareOp .NotEq (.ref T1) (.ref T2)) Q E s := by
  obtain ⟨F, k', v, dn, c, ws, N, hv, hi''⟩ := ok
  have e1 := (N _ (.tail _ (.tail _ (.tail _ m1)))).1
  have e2 := (N _ (.tail _ (.tail _ (.tail _ m2)))).1
  exact ne_dataH_same (Reads.tuple e1 rfl rfl (by simpa using readsAll_of_ints hi)) (Reads.tuple e2 rfl rfl (by simpa using readsAll_of_ints hi')) (shaped_tup ns) (shaped_tup ms) hu (by simp only [noMix]; exact noMix_ints ns ms) (by simp only [PySem.Spec.same]; rw [same_ints]; exact h)
theorem r_nelist (hu : A.units + 64 < cLine) (ok : Ok og w x d M rest h₀ L l S s.heap (s.os, s.drawn) s.gens) (m2 : (Pl, listOf us.toArray cp) ∈ rest) (hi' : IntsAre us ms)
    (h : Q (.bool (!decide (S.mem = ms))) s) : wpAny (model prog w) A (compareOp .NotEq (.ref M) (.ref Pl)) Q E s := by
  obtain ⟨F, k', v, dn, c, ws, N, hv, hi''⟩ := ok
  exact ne_intsK (PySem.IsL.isList (n := c) (N _ (.tail _ (.tail _ (.head _)))).1) hi''.1 (PySem.IsL.isList (n := cp) (N _ (.tail _ (.tail _ (.tail _ m2)))).1) hi' hu h
theorem isnot_nn {Q : Value → Shared → Prop} (h : Q (.bool false) s) : wpAny (model prog w) A (compareOp .IsNot .none .none) Q E s := isnot_none_gen h
theorem isnot_in {Q : Value → Shared → Prop} {i : Int} (h : Q (.bool true) s) : wpAny (model prog w) A (compareOp .IsNot (.int i t) .none) Q E s := isnot_none_gen h
end
local macro_rules | `(tactic| walk_at "cw") => `(tactic| first
  | (with_reducible refine wpAny_execs_cons ?_)
  | (with_reducible refine wpAny_execs_nil ?_)
  | (with_reducible refine wpAny_BinOp ?_)
  | ((with_reducible refine' r_loc ?okk ?att ?_); (case okk => walk_at "asm"); (case att => walk_at "at"))
  | (with_reducible refine k_int (by walk_at "asm") ?_; intro _ _ _)
  | (with_reducible refine b_add (by walk_at "asm") ?_; intro _ _ _)
  | (with_reducible refine b_sub (by walk_at "asm") ?_; intro _ _ _)
  | (with_reducible refine b_neg (by walk_at "asm") ?_; intro _ _ _)
  | ((with_reducible refine' b_mod ?okk ?ne ?_); (case okk => walk_at "asm"); (case ne => decide); intro _ _ _)
  | ((with_reducible refine' b_fdiv ?okk ?ne ?sm ?_); (case okk => walk_at "asm"); (case ne => decide); (case sm => exact PyProof.noPylong_small (by omega)); intro _ _ _)
  | ((with_reducible refine' b_mul ?okk ?sm ?_); (case okk => walk_at "asm"); (case sm => mul_fits); intro _ _ _)
  | (with_reducible refine wpAny_Assign_Name ?_ (by kernel_rfl))
  | (with_reducible refine wpAny_Assign_two ?_ (by kernel_rfl) (by kernel_rfl))
  | (with_reducible refine wpAny_assign_Name ?_)
  | (with_reducible refine r_asub ?_)
  | (with_reducible refine wpAny_Assign_Subscript ?_ (by kernel_rfl))
  | (with_reducible refine r_sto (by walk_at "asm") ?_; intro _ _)
  | (with_reducible refine wpAny_If ?_)
  | (with_reducible refine wpAny_isTrue_Compare1 ?_ (by kernel_rfl))
  | (with_reducible refine isTrue_or ?_)
  | (with_reducible refine isTrue_or_nil ?_)
  | (with_reducible refine UnaryOp_ ?_)
  | (with_reducible refine Subscript_ ?_)
  | (with_reducible refine PyProof.Rows.eq_int ?_)
  | (with_reducible refine P.ge_int ?_)
  | (with_reducible refine P.lt_int ?_)
  | (with_reducible refine PyProof.Rows.gt_int ?_)
  | (with_reducible refine wpAny_truthy_bool ?_)
  | (with_reducible refine ite_tt ?_)
  | (with_reducible refine ite_ff ?_)
  | (with_reducible refine ite_of_f (by decide) ?_)
  | (with_reducible refine ite_of_t (by decide) ?_))
local macro_rules | `(tactic| walk_at "keep") => `(tactic| (intro nm9 v9 hne9 h9; (simp only [chNames, List.any_cons, List.any_nil, Bool.or_eq_false_iff] at hne9); (obtain ⟨n1, n2, n3, n4, n5, n6, n7, n8, n9, n10, n11⟩ := hne9); repeat (first | with_reducible exact h9 | with_reducible refine At.there (by assumption) ?_)))
local macro_rules | `(tactic| walk_at "loci") => `(tactic| first | ((refine' AtI.of ?h1 ?h2); (case h1 => walk_at "at"); (case h2 => rfl)) | ((refine' told_some ?h1 ?h2); (case h1 => walk_at "at"); (case h2 => rfl)) | ((refine' told_none ?h1 ?h2); (case h1 => walk_at "at"); (case h2 => first | rfl | assumption)))
local macro_rules | `(tactic| walk_at "loc") => `(tactic| (refine' ⟨?g1, ?g2, ?g3, ?g4, ?g5, ?g6, ?g7⟩; (case g1 => walk_at "loci"); (case g2 => walk_at "loci"); (case g3 => walk_at "loci"); (case g4 => walk_at "loci"); (case g5 => walk_at "loci"); (case g6 => walk_at "loci"); (case g7 => walk_at "loci")))
section
variable {og o9 : OsState × Drawn} {g9 : Array GenState} {K : Frag} {n : Nat} {A : Around} {h₀ : Heap} {L x d M f Pl : Addr} {r1 : List (Addr × Obj)} {l : List (Str × Value)} {S : MS} {s : Shared} {w : World} {prog : Program} {E : Value → Shared → Prop} {q : Str} {cd : Value} {Q : Flow → Shared → Prop} {us : List Value} {cp : Nat} {v : Int} {V : LV}
theorem chain_0 {tk tv : Tok} (ap : Ap2 x d M Pl r1) (ok : Ok og w x d M ((Pl, listOf us.toArray cp) :: r1) h₀ L l S s.heap (s.os, s.drawn) s.gens) (lo : Loc l V) (ht : V.told = none) (ak : At l (Str.ofString "kind") (.int 0 tk)) (av : At l (Str.ofString "value") (.int v tv)) (apl : At l (Str.ofString "plain") (.ref Pl))
    (hi : IntsAre us V.pl) (hlen : V.pl.length = 768) (v0 : 0 ≤ v) (v1 : v < 256) (a0 : 0 ≤ V.a) (a1 : V.a ≤ 255) (c0 : 0 ≤ V.c) (c1 : V.c ≤ 1) (s0 : 0 ≤ V.st) (s1 : V.st ≤ 255)
    (hq : ∀ s' l' ws, Loc l' (reck 0 v V) → Keep l l' → Ok og w x d M ((Pl, listOf (List.toArray ws) cp) :: r1) h₀ L l' S s'.heap (s'.os, s'.drawn) s'.gens → IntsAre ws (reck 0 v V).pl → Q .next s') :
    wpAny (model prog w) A (exec (nthS 3 (forBody pw 11)) (envOf q (lawD pw).scope L f cd)) Q E s := by
  obtain ⟨⟨ta, ha⟩, ⟨tx, hx⟩, ⟨ty, hy⟩, ⟨ts, hs⟩, ⟨tc, hc⟩, ⟨to, ho⟩, htd⟩ := lo
  rw [ht] at htd
  have htd' : At l (Str.ofString "told") .none := htd
  clear htd
  refine wpAny_If ?_
  repeat' (walk_at "cw")
  refine hq _ _ _ ?_ ?_ (by walk_at "asm") hi
  · walk_at "loc"
  · walk_at "keep"
theorem chain_1 {tk tv : Tok} (ap : Ap2 x d M Pl r1) (ok : Ok og w x d M ((Pl, listOf us.toArray cp) :: r1) h₀ L l S s.heap (s.os, s.drawn) s.gens) (lo : Loc l V) (ht : V.told = none) (ak : At l (Str.ofString "kind") (.int 1 tk)) (av : At l (Str.ofString "value") (.int v tv)) (apl : At l (Str.ofString "plain") (.ref Pl))
    (hi : IntsAre us V.pl) (hlen : V.pl.length = 768) (v0 : 0 ≤ v) (v1 : v < 256) (a0 : 0 ≤ V.a) (a1 : V.a ≤ 255) (c0 : 0 ≤ V.c) (c1 : V.c ≤ 1) (s0 : 0 ≤ V.st) (s1 : V.st ≤ 255)
    (hq : ∀ s' l' ws, Loc l' (reck 1 v V) → Keep l l' → Ok og w x d M ((Pl, listOf (List.toArray ws) cp) :: r1) h₀ L l' S s'.heap (s'.os, s'.drawn) s'.gens → IntsAre ws (reck 1 v V).pl → Q .next s') :
    wpAny (model prog w) A (exec (nthS 3 (forBody pw 11)) (envOf q (lawD pw).scope L f cd)) Q E s := by
  obtain ⟨⟨ta, ha⟩, ⟨tx, hx⟩, ⟨ty, hy⟩, ⟨ts, hs⟩, ⟨tc, hc⟩, ⟨to, ho⟩, htd⟩ := lo
  rw [ht] at htd
  have htd' : At l (Str.ofString "told") .none := htd
  clear htd
  refine wpAny_If ?_
  repeat' (walk_at "cw")
  refine hq _ _ _ ?_ ?_ (by walk_at "asm") hi
  · walk_at "loc"
  · walk_at "keep"
theorem chain_2 {tk tv : Tok} (ap : Ap2 x d M Pl r1) (ok : Ok og w x d M ((Pl, listOf us.toArray cp) :: r1) h₀ L l S s.heap (s.os, s.drawn) s.gens) (lo : Loc l V) (ht : V.told = none) (ak : At l (Str.ofString "kind") (.int 2 tk)) (av : At l (Str.ofString "value") (.int v tv)) (apl : At l (Str.ofString "plain") (.ref Pl))
    (hi : IntsAre us V.pl) (hlen : V.pl.length = 768) (v0 : 0 ≤ v) (v1 : v < 256) (a0 : 0 ≤ V.a) (a1 : V.a ≤ 255) (c0 : 0 ≤ V.c) (c1 : V.c ≤ 1) (s0 : 0 ≤ V.st) (s1 : V.st ≤ 255)
    (hq : ∀ s' l' ws, Loc l' (reck 2 v V) → Keep l l' → Ok og w x d M ((Pl, listOf (List.toArray ws) cp) :: r1) h₀ L l' S s'.heap (s'.os, s'.drawn) s'.gens → IntsAre ws (reck 2 v V).pl → Q .next s') :
    wpAny (model prog w) A (exec (nthS 3 (forBody pw 11)) (envOf q (lawD pw).scope L f cd)) Q E s := by
  obtain ⟨⟨ta, ha⟩, ⟨tx, hx⟩, ⟨ty, hy⟩, ⟨ts, hs⟩, ⟨tc, hc⟩, ⟨to, ho⟩, htd⟩ := lo
  rw [ht] at htd
  have htd' : At l (Str.ofString "told") .none := htd
  clear htd
  refine wpAny_If ?_
  repeat' (walk_at "cw")
  refine hq _ _ _ ?_ ?_ (by walk_at "asm") hi
  · walk_at "loc"
  · walk_at "keep"
theorem chain_3 {tk tv : Tok} (ap : Ap2 x d M Pl r1) (ok : Ok og w x d M ((Pl, listOf us.toArray cp) :: r1) h₀ L l S s.heap (s.os, s.drawn) s.gens) (lo : Loc l V) (ht : V.told = none) (ak : At l (Str.ofString "kind") (.int 3 tk)) (av : At l (Str.ofString "value") (.int v tv)) (apl : At l (Str.ofString "plain") (.ref Pl))
    (hi : IntsAre us V.pl) (hlen : V.pl.length = 768) (v0 : 0 ≤ v) (v1 : v < 256) (a0 : 0 ≤ V.a) (a1 : V.a ≤ 255) (c0 : 0 ≤ V.c) (c1 : V.c ≤ 1) (s0 : 0 ≤ V.st) (s1 : V.st ≤ 255)
    (hq : ∀ s' l' ws, Loc l' (reck 3 v V) → Keep l l' → Ok og w x d M ((Pl, listOf (List.toArray ws) cp) :: r1) h₀ L l' S s'.heap (s'.os, s'.drawn) s'.gens → IntsAre ws (reck 3 v V).pl → Q .next s') :
    wpAny (model prog w) A (exec (nthS 3 (forBody pw 11)) (envOf q (lawD pw).scope L f cd)) Q E s := by
  obtain ⟨⟨ta, ha⟩, ⟨tx, hx⟩, ⟨ty, hy⟩, ⟨ts, hs⟩, ⟨tc, hc⟩, ⟨to, ho⟩, htd⟩ := lo
  rw [ht] at htd
  have htd' : At l (Str.ofString "told") .none := htd
  clear htd
  refine wpAny_If ?_
  repeat' (walk_at "cw")
  refine IfExp_ ?_
  repeat' (walk_at "cw")
  refine r_ifx (i1 := V.a - 256) (i2 := V.a) (by walk_at "asm") ?_
  repeat' (walk_at "cw")
  refine ⟨?_, ?_, ?_⟩
  · repeat' (walk_at "cw")
    exact ⟨⟨_, rfl⟩, by walk_at "asm"⟩
  · repeat' (walk_at "cw")
    exact ⟨⟨_, rfl⟩, by walk_at "asm"⟩
  intro _ _ _
  repeat' (walk_at "cw")
  refine r_ifx (i1 := v - 256) (i2 := v) (by walk_at "asm") ?_
  repeat' (walk_at "cw")
  refine ⟨?_, ?_, ?_⟩
  · repeat' (walk_at "cw")
    exact ⟨⟨_, rfl⟩, by walk_at "asm"⟩
  · repeat' (walk_at "cw")
    exact ⟨⟨_, rfl⟩, by walk_at "asm"⟩
  intro _ _ _
  repeat' (walk_at "cw")
  refine r_ifx (i1 := 1) (i2 := 0) (by walk_at "asm") ?_
  repeat' (walk_at "cw")
  refine ⟨?_, ?_, ?_⟩
  · repeat' (walk_at "cw")
    exact ⟨⟨_, rfl⟩, by walk_at "asm"⟩
  · repeat' (walk_at "cw")
    exact ⟨⟨_, rfl⟩, by walk_at "asm"⟩
  intro _ _ _
  repeat' (walk_at "cw")
  refine r_ifo (decide (sgn V.a + sgn v + V.c < -128)) (decide (127 < sgn V.a + sgn v + V.c)) 1 0 (by walk_at "asm") ?_ ?_ ?_ ?_ ?_
  · intro s8 ok8
    repeat' (walk_at "cw")
    exact ⟨rfl, by walk_at "asm"⟩
  · intro s8 ok8
    repeat' (walk_at "cw")
    exact ⟨rfl, by walk_at "asm"⟩
  · intro s8 ok8
    repeat' (walk_at "cw")
    exact ⟨⟨_, rfl⟩, by walk_at "asm"⟩
  · intro s8 ok8
    repeat' (walk_at "cw")
    exact ⟨⟨_, rfl⟩, by walk_at "asm"⟩
  intro _ _ _
  repeat' (walk_at "cw")
  refine hq _ _ _ ?_ ?_ (by walk_at "asm") hi
  · walk_at "loc"
  · walk_at "keep"
theorem chain_4 {tk tv : Tok} (ap : Ap2 x d M Pl r1) (ok : Ok og w x d M ((Pl, listOf us.toArray cp) :: r1) h₀ L l S s.heap (s.os, s.drawn) s.gens) (lo : Loc l V) (ht : V.told = none) (ak : At l (Str.ofString "kind") (.int 4 tk)) (av : At l (Str.ofString "value") (.int v tv)) (apl : At l (Str.ofString "plain") (.ref Pl))
    (hi : IntsAre us V.pl) (hlen : V.pl.length = 768) (v0 : 0 ≤ v) (v1 : v < 256) (a0 : 0 ≤ V.a) (a1 : V.a ≤ 255) (c0 : 0 ≤ V.c) (c1 : V.c ≤ 1) (s0 : 0 ≤ V.st) (s1 : V.st ≤ 255)
    (hq : ∀ s' l' ws, Loc l' (reck 4 v V) → Keep l l' → Ok og w x d M ((Pl, listOf (List.toArray ws) cp) :: r1) h₀ L l' S s'.heap (s'.os, s'.drawn) s'.gens → IntsAre ws (reck 4 v V).pl → Q .next s') :
    wpAny (model prog w) A (exec (nthS 3 (forBody pw 11)) (envOf q (lawD pw).scope L f cd)) Q E s := by
  obtain ⟨⟨ta, ha⟩, ⟨tx, hx⟩, ⟨ty, hy⟩, ⟨ts, hs⟩, ⟨tc, hc⟩, ⟨to, ho⟩, htd⟩ := lo
  rw [ht] at htd
  have htd' : At l (Str.ofString "told") .none := htd
  clear htd
  refine wpAny_If ?_
  repeat' (walk_at "cw")
  refine IfExp_ ?_
  repeat' (walk_at "cw")
  refine r_ifx (i1 := V.a - 256) (i2 := V.a) (by walk_at "asm") ?_
  repeat' (walk_at "cw")
  refine ⟨?_, ?_, ?_⟩
  · repeat' (walk_at "cw")
    exact ⟨⟨_, rfl⟩, by walk_at "asm"⟩
  · repeat' (walk_at "cw")
    exact ⟨⟨_, rfl⟩, by walk_at "asm"⟩
  intro _ _ _
  repeat' (walk_at "cw")
  refine r_ifx (i1 := (255 - v) - 256) (i2 := (255 - v)) (by walk_at "asm") ?_
  repeat' (walk_at "cw")
  refine ⟨?_, ?_, ?_⟩
  · repeat' (walk_at "cw")
    exact ⟨⟨_, rfl⟩, by walk_at "asm"⟩
  · repeat' (walk_at "cw")
    exact ⟨⟨_, rfl⟩, by walk_at "asm"⟩
  intro _ _ _
  repeat' (walk_at "cw")
  refine r_ifx (i1 := 1) (i2 := 0) (by walk_at "asm") ?_
  repeat' (walk_at "cw")
  refine ⟨?_, ?_, ?_⟩
  · repeat' (walk_at "cw")
    exact ⟨⟨_, rfl⟩, by walk_at "asm"⟩
  · repeat' (walk_at "cw")
    exact ⟨⟨_, rfl⟩, by walk_at "asm"⟩
  intro _ _ _
  repeat' (walk_at "cw")
  refine r_ifo (decide (sgn V.a + sgn (255 - v) + V.c < -128)) (decide (127 < sgn V.a + sgn (255 - v) + V.c)) 1 0 (by walk_at "asm") ?_ ?_ ?_ ?_ ?_
  · intro s8 ok8
    repeat' (walk_at "cw")
    exact ⟨rfl, by walk_at "asm"⟩
  · intro s8 ok8
    repeat' (walk_at "cw")
    exact ⟨rfl, by walk_at "asm"⟩
  · intro s8 ok8
    repeat' (walk_at "cw")
    exact ⟨⟨_, rfl⟩, by walk_at "asm"⟩
  · intro s8 ok8
    repeat' (walk_at "cw")
    exact ⟨⟨_, rfl⟩, by walk_at "asm"⟩
  intro _ _ _
  repeat' (walk_at "cw")
  refine hq _ _ _ ?_ ?_ (by walk_at "asm") hi
  · walk_at "loc"
  · walk_at "keep"
theorem chain_5 {tk tv : Tok} (ap : Ap2 x d M Pl r1) (ok : Ok og w x d M ((Pl, listOf us.toArray cp) :: r1) h₀ L l S s.heap (s.os, s.drawn) s.gens) (lo : Loc l V) (ht : V.told = none) (ak : At l (Str.ofString "kind") (.int 5 tk)) (av : At l (Str.ofString "value") (.int v tv)) (apl : At l (Str.ofString "plain") (.ref Pl))
    (hi : IntsAre us V.pl) (hlen : V.pl.length = 768) (v0 : 0 ≤ v) (v1 : v < 256) (a0 : 0 ≤ V.a) (a1 : V.a ≤ 255) (c0 : 0 ≤ V.c) (c1 : V.c ≤ 1) (s0 : 0 ≤ V.st) (s1 : V.st ≤ 255)
    (hq : ∀ s' l' ws, Loc l' (reck 5 v V) → Keep l l' → Ok og w x d M ((Pl, listOf (List.toArray ws) cp) :: r1) h₀ L l' S s'.heap (s'.os, s'.drawn) s'.gens → IntsAre ws (reck 5 v V).pl → Q .next s') :
    wpAny (model prog w) A (exec (nthS 3 (forBody pw 11)) (envOf q (lawD pw).scope L f cd)) Q E s := by
  obtain ⟨⟨ta, ha⟩, ⟨tx, hx⟩, ⟨ty, hy⟩, ⟨ts, hs⟩, ⟨tc, hc⟩, ⟨to, ho⟩, htd⟩ := lo
  rw [ht] at htd
  have htd' : At l (Str.ofString "told") .none := htd
  clear htd
  refine wpAny_If ?_
  repeat' (walk_at "cw")
  refine r_ifx (i1 := 1) (i2 := 0) (by walk_at "asm") ?_
  repeat' (walk_at "cw")
  refine ⟨?_, ?_, ?_⟩
  · repeat' (walk_at "cw")
    exact ⟨⟨_, rfl⟩, by walk_at "asm"⟩
  · repeat' (walk_at "cw")
    exact ⟨⟨_, rfl⟩, by walk_at "asm"⟩
  intro _ _ _
  repeat' (walk_at "cw")
  refine hq _ _ _ ?_ ?_ (by walk_at "asm") hi
  · walk_at "loc"
  · walk_at "keep"
theorem chain_6 {tk tv : Tok} (ap : Ap2 x d M Pl r1) (ok : Ok og w x d M ((Pl, listOf us.toArray cp) :: r1) h₀ L l S s.heap (s.os, s.drawn) s.gens) (lo : Loc l V) (ht : V.told = none) (ak : At l (Str.ofString "kind") (.int 6 tk)) (av : At l (Str.ofString "value") (.int v tv)) (apl : At l (Str.ofString "plain") (.ref Pl))
    (hi : IntsAre us V.pl) (hlen : V.pl.length = 768) (v0 : 0 ≤ v) (v1 : v < 256) (a0 : 0 ≤ V.a) (a1 : V.a ≤ 255) (c0 : 0 ≤ V.c) (c1 : V.c ≤ 1) (s0 : 0 ≤ V.st) (s1 : V.st ≤ 255)
    (hq : ∀ s' l' ws, Loc l' (reck 6 v V) → Keep l l' → Ok og w x d M ((Pl, listOf (List.toArray ws) cp) :: r1) h₀ L l' S s'.heap (s'.os, s'.drawn) s'.gens → IntsAre ws (reck 6 v V).pl → Q .next s') :
    wpAny (model prog w) A (exec (nthS 3 (forBody pw 11)) (envOf q (lawD pw).scope L f cd)) Q E s := by
  obtain ⟨⟨ta, ha⟩, ⟨tx, hx⟩, ⟨ty, hy⟩, ⟨ts, hs⟩, ⟨tc, hc⟩, ⟨to, ho⟩, htd⟩ := lo
  rw [ht] at htd
  have htd' : At l (Str.ofString "told") .none := htd
  clear htd
  refine wpAny_If ?_
  repeat' (walk_at "cw")
  refine r_pset ap (by walk_at "asm") hi (by omega) (by omega) (by omega) ?_
  intro s9 ws9 ok9 hi9
  repeat' (walk_at "cw")
  refine hq _ _ _ ?_ ?_ (by walk_at "asm") hi9
  · walk_at "loc"
  · walk_at "keep"
theorem chain_7 {tk tv : Tok} (ap : Ap2 x d M Pl r1) (ok : Ok og w x d M ((Pl, listOf us.toArray cp) :: r1) h₀ L l S s.heap (s.os, s.drawn) s.gens) (lo : Loc l V) (ht : V.told = none) (ak : At l (Str.ofString "kind") (.int 7 tk)) (av : At l (Str.ofString "value") (.int v tv)) (apl : At l (Str.ofString "plain") (.ref Pl))
    (hi : IntsAre us V.pl) (hlen : V.pl.length = 768) (v0 : 0 ≤ v) (v1 : v < 256) (a0 : 0 ≤ V.a) (a1 : V.a ≤ 255) (c0 : 0 ≤ V.c) (c1 : V.c ≤ 1) (s0 : 0 ≤ V.st) (s1 : V.st ≤ 255)
    (hq : ∀ s' l' ws, Loc l' (reck 7 v V) → Keep l l' → Ok og w x d M ((Pl, listOf (List.toArray ws) cp) :: r1) h₀ L l' S s'.heap (s'.os, s'.drawn) s'.gens → IntsAre ws (reck 7 v V).pl → Q .next s') :
    wpAny (model prog w) A (exec (nthS 3 (forBody pw 11)) (envOf q (lawD pw).scope L f cd)) Q E s := by
  obtain ⟨⟨ta, ha⟩, ⟨tx, hx⟩, ⟨ty, hy⟩, ⟨ts, hs⟩, ⟨tc, hc⟩, ⟨to, ho⟩, htd⟩ := lo
  rw [ht] at htd
  have htd' : At l (Str.ofString "told") .none := htd
  clear htd
  refine wpAny_If ?_
  repeat' (walk_at "cw")
  refine r_pitem (by walk_at "asm") (.head _) hi (by omega) (by omega) (by omega) ?_ (by kernel_rfl)
  intro _
  repeat' (walk_at "cw")
  refine hq _ _ _ ?_ ?_ (by walk_at "asm") hi
  · walk_at "loc"
  · walk_at "keep"
theorem chain_8 {tk tv : Tok} (ap : Ap2 x d M Pl r1) (ok : Ok og w x d M ((Pl, listOf us.toArray cp) :: r1) h₀ L l S s.heap (s.os, s.drawn) s.gens) (lo : Loc l V) (ht : V.told = none) (ak : At l (Str.ofString "kind") (.int 8 tk)) (av : At l (Str.ofString "value") (.int v tv)) (apl : At l (Str.ofString "plain") (.ref Pl))
    (hi : IntsAre us V.pl) (hlen : V.pl.length = 768) (v0 : 0 ≤ v) (v1 : v < 256) (a0 : 0 ≤ V.a) (a1 : V.a ≤ 255) (c0 : 0 ≤ V.c) (c1 : V.c ≤ 1) (s0 : 0 ≤ V.st) (s1 : V.st ≤ 255)
    (hq : ∀ s' l' ws, Loc l' (reck 8 v V) → Keep l l' → Ok og w x d M ((Pl, listOf (List.toArray ws) cp) :: r1) h₀ L l' S s'.heap (s'.os, s'.drawn) s'.gens → IntsAre ws (reck 8 v V).pl → Q .next s') :
    wpAny (model prog w) A (exec (nthS 3 (forBody pw 11)) (envOf q (lawD pw).scope L f cd)) Q E s := by
  obtain ⟨⟨ta, ha⟩, ⟨tx, hx⟩, ⟨ty, hy⟩, ⟨ts, hs⟩, ⟨tc, hc⟩, ⟨to, ho⟩, htd⟩ := lo
  rw [ht] at htd
  have htd' : At l (Str.ofString "told") .none := htd
  clear htd
  refine wpAny_If ?_
  repeat' (walk_at "cw")
  refine r_pitem (by walk_at "asm") (.head _) hi (by omega) (by omega) (by omega) ?_ (by kernel_rfl)
  intro _
  repeat' (walk_at "cw")
  refine r_pset ap (by walk_at "asm") hi (by omega) (by omega) (by omega) ?_
  intro s9 ws9 ok9 hi9
  repeat' (walk_at "cw")
  refine hq _ _ _ ?_ ?_ (by walk_at "asm") hi9
  · walk_at "loc"
  · walk_at "keep"
theorem chain_9 {tk tv : Tok} (ap : Ap2 x d M Pl r1) (ok : Ok og w x d M ((Pl, listOf us.toArray cp) :: r1) h₀ L l S s.heap (s.os, s.drawn) s.gens) (lo : Loc l V) (ht : V.told = none) (ak : At l (Str.ofString "kind") (.int 9 tk)) (av : At l (Str.ofString "value") (.int v tv)) (apl : At l (Str.ofString "plain") (.ref Pl))
    (hi : IntsAre us V.pl) (hlen : V.pl.length = 768) (v0 : 0 ≤ v) (v1 : v < 256) (a0 : 0 ≤ V.a) (a1 : V.a ≤ 255) (c0 : 0 ≤ V.c) (c1 : V.c ≤ 1) (s0 : 0 ≤ V.st) (s1 : V.st ≤ 255)
    (hq : ∀ s' l' ws, Loc l' (reck 9 v V) → Keep l l' → Ok og w x d M ((Pl, listOf (List.toArray ws) cp) :: r1) h₀ L l' S s'.heap (s'.os, s'.drawn) s'.gens → IntsAre ws (reck 9 v V).pl → Q .next s') :
    wpAny (model prog w) A (exec (nthS 3 (forBody pw 11)) (envOf q (lawD pw).scope L f cd)) Q E s := by
  obtain ⟨⟨ta, ha⟩, ⟨tx, hx⟩, ⟨ty, hy⟩, ⟨ts, hs⟩, ⟨tc, hc⟩, ⟨to, ho⟩, htd⟩ := lo
  rw [ht] at htd
  have htd' : At l (Str.ofString "told") .none := htd
  clear htd
  refine wpAny_If ?_
  repeat' (walk_at "cw")
  refine hq _ _ _ ?_ ?_ (by walk_at "asm") hi
  · walk_at "loc"
  · walk_at "keep"
theorem chain_10 {tk tv : Tok} (ap : Ap2 x d M Pl r1) (ok : Ok og w x d M ((Pl, listOf us.toArray cp) :: r1) h₀ L l S s.heap (s.os, s.drawn) s.gens) (lo : Loc l V) (ht : V.told = none) (ak : At l (Str.ofString "kind") (.int 10 tk)) (av : At l (Str.ofString "value") (.int v tv)) (apl : At l (Str.ofString "plain") (.ref Pl))
    (hi : IntsAre us V.pl) (hlen : V.pl.length = 768) (v0 : 0 ≤ v) (v1 : v < 256) (a0 : 0 ≤ V.a) (a1 : V.a ≤ 255) (c0 : 0 ≤ V.c) (c1 : V.c ≤ 1) (s0 : 0 ≤ V.st) (s1 : V.st ≤ 255)
    (hq : ∀ s' l' ws, Loc l' (reck 10 v V) → Keep l l' → Ok og w x d M ((Pl, listOf (List.toArray ws) cp) :: r1) h₀ L l' S s'.heap (s'.os, s'.drawn) s'.gens → IntsAre ws (reck 10 v V).pl → Q .next s') :
    wpAny (model prog w) A (exec (nthS 3 (forBody pw 11)) (envOf q (lawD pw).scope L f cd)) Q E s := by
  obtain ⟨⟨ta, ha⟩, ⟨tx, hx⟩, ⟨ty, hy⟩, ⟨ts, hs⟩, ⟨tc, hc⟩, ⟨to, ho⟩, htd⟩ := lo
  rw [ht] at htd
  have htd' : At l (Str.ofString "told") .none := htd
  clear htd
  refine wpAny_If ?_
  repeat' (walk_at "cw")
  refine hq _ _ _ ?_ ?_ (by walk_at "asm") hi
  · walk_at "loc"
  · walk_at "keep"
theorem chain_11 {tk tv : Tok} (ap : Ap2 x d M Pl r1) (ok : Ok og w x d M ((Pl, listOf us.toArray cp) :: r1) h₀ L l S s.heap (s.os, s.drawn) s.gens) (lo : Loc l V) (ht : V.told = none) (ak : At l (Str.ofString "kind") (.int 11 tk)) (av : At l (Str.ofString "value") (.int v tv)) (apl : At l (Str.ofString "plain") (.ref Pl))
    (hi : IntsAre us V.pl) (hlen : V.pl.length = 768) (v0 : 0 ≤ v) (v1 : v < 256) (a0 : 0 ≤ V.a) (a1 : V.a ≤ 255) (c0 : 0 ≤ V.c) (c1 : V.c ≤ 1) (s0 : 0 ≤ V.st) (s1 : V.st ≤ 255)
    (hq : ∀ s' l' ws, Loc l' (reck 11 v V) → Keep l l' → Ok og w x d M ((Pl, listOf (List.toArray ws) cp) :: r1) h₀ L l' S s'.heap (s'.os, s'.drawn) s'.gens → IntsAre ws (reck 11 v V).pl → Q .next s') :
    wpAny (model prog w) A (exec (nthS 3 (forBody pw 11)) (envOf q (lawD pw).scope L f cd)) Q E s := by
  obtain ⟨⟨ta, ha⟩, ⟨tx, hx⟩, ⟨ty, hy⟩, ⟨ts, hs⟩, ⟨tc, hc⟩, ⟨to, ho⟩, htd⟩ := lo
  rw [ht] at htd
  have htd' : At l (Str.ofString "told") .none := htd
  clear htd
  refine wpAny_If ?_
  repeat' (walk_at "cw")
  refine hq _ _ _ ?_ ?_ (by walk_at "asm") hi
  · walk_at "loc"
  · walk_at "keep"
theorem chain_12 {tk tv : Tok} (ap : Ap2 x d M Pl r1) (ok : Ok og w x d M ((Pl, listOf us.toArray cp) :: r1) h₀ L l S s.heap (s.os, s.drawn) s.gens) (lo : Loc l V) (ht : V.told = none) (ak : At l (Str.ofString "kind") (.int 12 tk)) (av : At l (Str.ofString "value") (.int v tv)) (apl : At l (Str.ofString "plain") (.ref Pl))
    (hi : IntsAre us V.pl) (hlen : V.pl.length = 768) (v0 : 0 ≤ v) (v1 : v < 256) (a0 : 0 ≤ V.a) (a1 : V.a ≤ 255) (c0 : 0 ≤ V.c) (c1 : V.c ≤ 1) (s0 : 0 ≤ V.st) (s1 : V.st ≤ 255)
    (hq : ∀ s' l' ws, Loc l' (reck 12 v V) → Keep l l' → Ok og w x d M ((Pl, listOf (List.toArray ws) cp) :: r1) h₀ L l' S s'.heap (s'.os, s'.drawn) s'.gens → IntsAre ws (reck 12 v V).pl → Q .next s') :
    wpAny (model prog w) A (exec (nthS 3 (forBody pw 11)) (envOf q (lawD pw).scope L f cd)) Q E s := by
  obtain ⟨⟨ta, ha⟩, ⟨tx, hx⟩, ⟨ty, hy⟩, ⟨ts, hs⟩, ⟨tc, hc⟩, ⟨to, ho⟩, htd⟩ := lo
  rw [ht] at htd
  have htd' : At l (Str.ofString "told") .none := htd
  clear htd
  refine wpAny_If ?_
  repeat' (walk_at "cw")
  refine hq _ _ _ ?_ ?_ (by walk_at "asm") hi
  · walk_at "loc"
  · walk_at "keep"
theorem chain_13 {tk tv : Tok} (ap : Ap2 x d M Pl r1) (ok : Ok og w x d M ((Pl, listOf us.toArray cp) :: r1) h₀ L l S s.heap (s.os, s.drawn) s.gens) (lo : Loc l V) (ht : V.told = none) (ak : At l (Str.ofString "kind") (.int 13 tk)) (av : At l (Str.ofString "value") (.int v tv)) (apl : At l (Str.ofString "plain") (.ref Pl))
    (hi : IntsAre us V.pl) (hlen : V.pl.length = 768) (v0 : 0 ≤ v) (v1 : v < 256) (a0 : 0 ≤ V.a) (a1 : V.a ≤ 255) (c0 : 0 ≤ V.c) (c1 : V.c ≤ 1) (s0 : 0 ≤ V.st) (s1 : V.st ≤ 255)
    (hq : ∀ s' l' ws, Loc l' (reck 13 v V) → Keep l l' → Ok og w x d M ((Pl, listOf (List.toArray ws) cp) :: r1) h₀ L l' S s'.heap (s'.os, s'.drawn) s'.gens → IntsAre ws (reck 13 v V).pl → Q .next s') :
    wpAny (model prog w) A (exec (nthS 3 (forBody pw 11)) (envOf q (lawD pw).scope L f cd)) Q E s := by
  obtain ⟨⟨ta, ha⟩, ⟨tx, hx⟩, ⟨ty, hy⟩, ⟨ts, hs⟩, ⟨tc, hc⟩, ⟨to, ho⟩, htd⟩ := lo
  rw [ht] at htd
  have htd' : At l (Str.ofString "told") .none := htd
  clear htd
  refine wpAny_If ?_
  repeat' (walk_at "cw")
  refine r_pset ap (by walk_at "asm") hi (by omega) (by omega) (by omega) ?_
  intro s9 ws9 ok9 hi9
  repeat' (walk_at "cw")
  refine hq _ _ _ ?_ ?_ (by walk_at "asm") hi9
  · walk_at "loc"
  · walk_at "keep"
theorem chain_14 {tk tv : Tok} (ap : Ap2 x d M Pl r1) (ok : Ok og w x d M ((Pl, listOf us.toArray cp) :: r1) h₀ L l S s.heap (s.os, s.drawn) s.gens) (lo : Loc l V) (ht : V.told = none) (ak : At l (Str.ofString "kind") (.int 14 tk)) (av : At l (Str.ofString "value") (.int v tv)) (apl : At l (Str.ofString "plain") (.ref Pl))
    (hi : IntsAre us V.pl) (hlen : V.pl.length = 768) (v0 : 0 ≤ v) (v1 : v < 256) (a0 : 0 ≤ V.a) (a1 : V.a ≤ 255) (c0 : 0 ≤ V.c) (c1 : V.c ≤ 1) (s0 : 0 ≤ V.st) (s1 : V.st ≤ 255)
    (hq : ∀ s' l' ws, Loc l' (reck 14 v V) → Keep l l' → Ok og w x d M ((Pl, listOf (List.toArray ws) cp) :: r1) h₀ L l' S s'.heap (s'.os, s'.drawn) s'.gens → IntsAre ws (reck 14 v V).pl → Q .next s') :
    wpAny (model prog w) A (exec (nthS 3 (forBody pw 11)) (envOf q (lawD pw).scope L f cd)) Q E s := by
  obtain ⟨⟨ta, ha⟩, ⟨tx, hx⟩, ⟨ty, hy⟩, ⟨ts, hs⟩, ⟨tc, hc⟩, ⟨to, ho⟩, htd⟩ := lo
  rw [ht] at htd
  have htd' : At l (Str.ofString "told") .none := htd
  clear htd
  refine wpAny_If ?_
  repeat' (walk_at "cw")
  have f0 : 0 ≤ (V.st + 1).fmod 256 := Int.fmod_nonneg_of_pos _ (by decide)
  have f1 : (V.st + 1).fmod 256 < 256 := Int.fmod_lt_of_pos _ (by decide)
  refine r_pitem (by walk_at "asm") (.head _) hi (by omega) (by omega) (by omega) ?_ (by kernel_rfl)
  intro _
  repeat' (walk_at "cw")
  refine hq _ _ _ ?_ ?_ (by walk_at "asm") hi
  · walk_at "loc"
  · walk_at "keep"
theorem chain_15 {tk tv : Tok} (ap : Ap2 x d M Pl r1) (ok : Ok og w x d M ((Pl, listOf us.toArray cp) :: r1) h₀ L l S s.heap (s.os, s.drawn) s.gens) (lo : Loc l V) (ht : V.told = none) (ak : At l (Str.ofString "kind") (.int 15 tk)) (av : At l (Str.ofString "value") (.int v tv)) (apl : At l (Str.ofString "plain") (.ref Pl))
    (hi : IntsAre us V.pl) (hlen : V.pl.length = 768) (v0 : 0 ≤ v) (v1 : v < 256) (a0 : 0 ≤ V.a) (a1 : V.a ≤ 255) (c0 : 0 ≤ V.c) (c1 : V.c ≤ 1) (s0 : 0 ≤ V.st) (s1 : V.st ≤ 255)
    (hq : ∀ s' l' ws, Loc l' (reck 15 v V) → Keep l l' → Ok og w x d M ((Pl, listOf (List.toArray ws) cp) :: r1) h₀ L l' S s'.heap (s'.os, s'.drawn) s'.gens → IntsAre ws (reck 15 v V).pl → Q .next s') :
    wpAny (model prog w) A (exec (nthS 3 (forBody pw 11)) (envOf q (lawD pw).scope L f cd)) Q E s := by
  obtain ⟨⟨ta, ha⟩, ⟨tx, hx⟩, ⟨ty, hy⟩, ⟨ts, hs⟩, ⟨tc, hc⟩, ⟨to, ho⟩, htd⟩ := lo
  rw [ht] at htd
  have htd' : At l (Str.ofString "told") .none := htd
  clear htd
  refine wpAny_If ?_
  repeat' (walk_at "cw")
  refine hq _ _ _ ?_ ?_ (by walk_at "asm") hi
  · walk_at "loc"
  · walk_at "keep"
end
local macro_rules | `(tactic| walk_at "get") => `(tactic| first
  | (with_reducible refine g_pc (by walk_at "asm") (by walk_at "asm") (by walk_at "asm") ?_; intro _ _ _)
  | (with_reducible refine g_p (by walk_at "asm") (by walk_at "asm") (by walk_at "asm") ?_; intro _ _ _)
  | (with_reducible refine g_a (by walk_at "asm") (by walk_at "asm") (by walk_at "asm") ?_; intro _ _ _)
  | (with_reducible refine g_x (by walk_at "asm") (by walk_at "asm") (by walk_at "asm") ?_; intro _ _ _)
  | (with_reducible refine g_y (by walk_at "asm") (by walk_at "asm") (by walk_at "asm") ?_; intro _ _ _)
  | (with_reducible refine g_sp (by walk_at "asm") (by walk_at "asm") (by walk_at "asm") ?_; intro _ _ _))
local macro_rules | `(tactic| walk_at "bw") => `(tactic| first
  | walk_at "cw"
  | (with_reducible refine Attribute_Name_ ?_ (by kernel_rfl))
  | ((with_reducible show wpAny _ _ (getAttr _ _ _) _ _ _); walk_at "get")
  | (with_reducible refine b_and (by walk_at "asm") ?_; intro _ _ _)
  | (with_reducible refine Tuple_ ?_)
  | (with_reducible refine spliced_more ?_ (by kernel_rfl))
  | (with_reducible refine spliced_none ?_)
  | (with_reducible refine PyProof.Rows.ne_int ?_)
  | (with_reducible refine Constant_none ?_)
  | (with_reducible refine isnot_nn ?_)
  | (with_reducible refine isnot_in ?_)
  | ((with_reducible refine' r_newTuple ?ap ?okk ?hz ?_); (case ap => walk_at "asm"); (case okk => walk_at "asm"); (case hz => exact Nat.le_of_ble_eq_true rfl); intro _ _ _ _))
structure Loc0 (l : List (Str × Value)) (V : LV) : Prop where
  a : AtI l (Str.ofString "a") V.a
  x : AtI l (Str.ofString "x") V.x
  y : AtI l (Str.ofString "y") V.y
  st : AtI l (Str.ofString "stack") V.st
  c : AtI l (Str.ofString "carry") V.c
  o : AtI l (Str.ofString "over") V.o
section
variable {og o9 : OsState × Drawn} {g9 : Array GenState} {K : Frag} {n : Nat} {A : Around} {h₀ : Heap} {L x d M f Pl W T : Addr} {rest r1 : List (Addr × Obj)} {l : List (Str × Value)} {S : MS} {s : Shared} {w : World} {prog : Program} {E : Value → Shared → Prop} {q : Str} {cd : Value} {Q : Flow → Shared → Prop} {us wv : List Value} {cp cw : Nat} {v κ p z m : Int} {V : LV} {t u tk tp : Tok} {pos : Pos}
theorem b1 (ok : Ok og w x d M rest h₀ L l S s.heap (s.os, s.drawn) s.gens) (ak : At l (Str.ofString "kind") (.int κ tk)) (aw : At l (Str.ofString "wide") (.ref W)) (hW : (W, listOf wv.toArray cw) ∈ rest) (hwi : IntsAre wv [0, 1, 2, 3, 4, 5, 6, 7, 8]) (k0 : 0 ≤ κ) (apl : At l (Str.ofString "place") (.int p tp))
    (hq : ∀ t s', Ok og w x d M rest h₀ L ((Str.ofString "place", .int (p + wid κ) t) :: l) S s'.heap (s'.os, s'.drawn) s'.gens → Q .next s') : wpAny (model prog w) A (exec (nthS 1 (forBody pw 11)) (envOf q (lawD pw).scope L f cd)) Q E s := by
  refine wpAny_AugAssign_Name ?_
  refine r_ldn ok apl ?_
  refine r_ifx (i1 := 2) (i2 := 1) ok ?_
  repeat' (walk_at "bw")
  refine r_pin (by walk_at "asm") hW (kf_of hwi) (b := decide (κ ≤ 8)) ((any_ints hwi κ).trans (wide_any κ k0)) ?_
  repeat' (walk_at "bw")
  refine ⟨?_, ?_, ?_⟩
  · repeat' (walk_at "bw")
    exact ⟨⟨_, rfl⟩, by walk_at "asm"⟩
  · repeat' (walk_at "bw")
    exact ⟨⟨_, rfl⟩, by walk_at "asm"⟩
  intro _ _ _
  refine i_add (by walk_at "asm") ?_
  intro _ _ _
  repeat' (walk_at "bw")
  exact hq _ _ (by assumption)
theorem b2 (ok : Ok og w x d M rest h₀ L l S s.heap (s.os, s.drawn) s.gens) (hq : ∀ s', Ok og w x d M rest h₀ L ((Str.ofString "told", .none) :: l) S s'.heap (s'.os, s'.drawn) s'.gens → Q .next s') : wpAny (model prog w) A (exec (nthS 2 (forBody pw 11)) (envOf q (lawD pw).scope L f cd)) Q E s := by
  refine wpAny_Assign_Name ?_ (by kernel_rfl)
  repeat' (walk_at "bw")
  exact hq _ (by walk_at "asm")
theorem b4 (ok : Ok og w x d M rest h₀ L l S s.heap (s.os, s.drawn) s.gens) (htd : toldV l V.told) (az : AtI l (Str.ofString "zero") z) (am : AtI l (Str.ofString "minus") m) (hsm : ∀ i, V.told = some i → 0 ≤ i ∧ i ≤ 255)
    (hq : ∀ s' l', (∀ nm v, (nm == Str.ofString "zero") = false → (nm == Str.ofString "minus") = false → At l nm v → At l' nm v) → AtI l' (Str.ofString "zero") (zOf V.told z) → AtI l' (Str.ofString "minus") (mOf V.told m) → Ok og w x d M rest h₀ L l' S s'.heap (s'.os, s'.drawn) s'.gens → Q .next s') :
    wpAny (model prog w) A (exec (nthS 4 (forBody pw 11)) (envOf q (lawD pw).scope L f cd)) Q E s := by
  cases ht : V.told with
  | none =>
    rw [ht] at htd
    have htd' : At l (Str.ofString "told") .none := htd
    refine wpAny_If ?_
    repeat' (walk_at "bw")
    refine hq _ l (fun _ _ _ _ h => h) ?_ ?_ (by walk_at "asm")
    · rw [ht]; exact az
    · rw [ht]; exact am
  | some i =>
    rw [ht] at htd
    obtain ⟨t, htd'⟩ := htd
    have hb := hsm i ht
    refine wpAny_If ?_
    repeat' (walk_at "bw")
    refine r_ifx (i1 := 1) (i2 := 0) (by walk_at "asm") ?_
    repeat' (walk_at "bw")
    refine ⟨?_, ?_, ?_⟩
    · repeat' (walk_at "bw")
      exact ⟨⟨_, rfl⟩, by walk_at "asm"⟩
    · repeat' (walk_at "bw")
      exact ⟨⟨_, rfl⟩, by walk_at "asm"⟩
    intro _ _ _
    repeat' (walk_at "bw")
    refine hq _ _ (fun _ _ e1 e2 h => At.there e2 (At.there e1 h)) ?_ ?_ (by walk_at "asm")
    · rw [ht]; exact ⟨_, At.there (by kernel_rfl) At.here⟩
    · rw [ht]; exact ⟨_, At.here⟩
theorem b5 (hu : A.units + 64 < cLine) (kf : KF K) (cx : Cx K n A (envOf q (lawD pw).scope L f cd) h₀ L) (ap : Ap x d M rest) (ok : Ok og w x d M rest h₀ L l S s.heap (s.os, s.drawn) s.gens) (lo : Loc0 l V) (amp : At l (Str.ofString "mpu") (.ref x)) (ame : At l (Str.ofString "memory") (.ref M)) (apl : At l (Str.ofString "plain") (.ref Pl)) (hP : (Pl, listOf us.toArray cp) ∈ rest) (hi : IntsAre us V.pl)
    (app : At l (Str.ofString "place") (.int S.pc tp)) (ea : S.a = V.a) (ex : S.x = V.x) (ey : S.y = V.y) (es : S.sp = V.st) (em : S.mem = V.pl) (hq : ∀ s', Ok og w x d M rest h₀ L l S s'.heap (s'.os, s'.drawn) s'.gens → Q .next s') :
    wpAny (model prog w) A (exec (nthS 5 (forBody pw 11)) (envOf q (lawD pw).scope L f cd)) Q E s := by
  obtain ⟨⟨ta, ha⟩, ⟨tx, hx⟩, ⟨ty, hy⟩, ⟨ts, hs⟩, ⟨tc, hc⟩, ⟨to, ho⟩⟩ := lo
  refine wpAny_If ?_
  repeat' (walk_at "bw")
  refine r_netup (ns := [S.a, S.x, S.y, S.sp, S.pc]) (ms := [V.a, V.x, V.y, V.st, S.pc]) hu (by walk_at "asm") (.tail _ (.head _)) (.head _) (by repeat constructor) (by repeat constructor) ?_
  have e1 : (!decide ([S.a, S.x, S.y, S.sp, S.pc] = [V.a, V.x, V.y, V.st, S.pc])) = false := by rw [ea, ex, ey, es]; simp
  rw [e1]
  repeat' (walk_at "bw")
  refine r_nelist hu (by walk_at "asm") (.tail _ (.tail _ hP)) hi ?_
  have e2 : (!decide (S.mem = V.pl)) = false := by rw [em]; simp
  rw [e2]
  repeat' (walk_at "bw")
  exact hq _ (Ok.drop (Ok.drop (by walk_at "asm")))
theorem b6 (kf : KF K) (cx : Cx K n A (envOf q (lawD pw).scope L f cd) h₀ L) (ap : Ap x d M rest) (ok : Ok og w x d M rest h₀ L l S s.heap (s.os, s.drawn) s.gens) (lo : Loc0 l V) (az : AtI l (Str.ofString "zero") z) (am : AtI l (Str.ofString "minus") m) (amp : At l (Str.ofString "mpu") (.ref x))
    (hb : 0 ≤ z ∧ z ≤ 1 ∧ 0 ≤ m ∧ m ≤ 1 ∧ 0 ≤ V.o ∧ V.o ≤ 1) (ep : bitAnd S.p 195 = V.c + 2 * z + 64 * V.o + 128 * m) (hq : ∀ s', Ok og w x d M rest h₀ L l S s'.heap (s'.os, s'.drawn) s'.gens → Q .next s') :
    wpAny (model prog w) A (exec (nthS 6 (forBody pw 11)) (envOf q (lawD pw).scope L f cd)) Q E s := by
  obtain ⟨⟨ta, ha⟩, ⟨tx, hx⟩, ⟨ty, hy⟩, ⟨ts, hs⟩, ⟨tc, hc⟩, ⟨to, ho⟩⟩ := lo
  obtain ⟨tz, hz⟩ := az
  obtain ⟨tm, hm⟩ := am
  refine wpAny_If ?_
  repeat' (walk_at "bw")
  have e1 : (bitAnd S.p 195 != V.c + 2 * z + 64 * V.o + 128 * m) = false := by rw [ep]; simp
  rw [e1]
  repeat' (walk_at "bw")
  exact hq _ (by walk_at "asm")
end
def StepOk (κ : Nat) : Prop := ∀ (og : OsState × Drawn) (K : Frag) (n : Nat) (A : Around) (h₀ : Heap) (L x d M f : Addr) (rest : List (Addr × Obj)) (l : List (Str × Value)) (S : MS) (s : Shared) (w : World) (prog : Program) (E : Value → Shared → Prop) (q : Str) (cd : Value) (Q : Flow → Shared → Prop) (v : Int),
  KF K → Cx K n A (envOf q (lawD pw).scope L f cd) h₀ L → n < 50 → Ap x d M rest → Ok og w x d M rest h₀ L l S s.heap (s.os, s.drawn) s.gens → At l (Str.ofString "mpu") (.ref x) → Fit S → S.mem.getD S.pc.toNat 0 = opOf (κ : Int) → (κ ≤ 8 → S.mem.getD (S.pc + 1).toNat 0 = v) → 0 ≤ v → v < 256 →
  (∀ s', Ok og w x d M rest h₀ L l (stepS κ v S) s'.heap (s'.os, s'.drawn) s'.gens → Q .next s') → wpAny (model prog w) A (exec (nthS 0 (forBody pw 11)) (envOf q (lawD pw).scope L f cd)) Q E s
def ChainOk (κ : Nat) : Prop := ∀ (og : OsState × Drawn) (A : Around) (h₀ : Heap) (L x d M f Pl : Addr) (r1 : List (Addr × Obj)) (l : List (Str × Value)) (S : MS) (s : Shared) (w : World) (prog : Program) (E : Value → Shared → Prop) (q : Str) (cd : Value) (Q : Flow → Shared → Prop) (us : List Value) (cp : Nat) (v : Int) (V : LV) (tk tv : Tok),
  Ap2 x d M Pl r1 → Ok og w x d M ((Pl, listOf us.toArray cp) :: r1) h₀ L l S s.heap (s.os, s.drawn) s.gens → Loc l V → V.told = none → At l (Str.ofString "kind") (.int (κ : Int) tk) → At l (Str.ofString "value") (.int v tv) → At l (Str.ofString "plain") (.ref Pl) → IntsAre us V.pl → V.pl.length = 768 → 0 ≤ v → v < 256 → 0 ≤ V.a → V.a ≤ 255 → 0 ≤ V.c → V.c ≤ 1 → 0 ≤ V.st → V.st ≤ 255 →
  (∀ s' l' ws, Loc l' (reck κ v V) → Keep l l' → Ok og w x d M ((Pl, listOf (List.toArray ws) cp) :: r1) h₀ L l' S s'.heap (s'.os, s'.drawn) s'.gens → IntsAre ws (reck κ v V).pl → Q .next s') →
  wpAny (model prog w) A (exec (nthS 3 (forBody pw 11)) (envOf q (lawD pw).scope L f cd)) Q E s
def GoodOk (κ : Nat) : Prop := ∀ (S : MS) (V : LV) (z m v : Int), Good S V z m → V.told = none → 0 ≤ v → v < 256 → Good (stepS κ v S) (reck κ v V) (zOf (reck κ v V).told z) (mOf (reck κ v V).told m) ∧ (stepS κ v S).pc = S.pc + wid (κ : Int) ∧ ∀ i, (reck κ v V).told = some i → 0 ≤ i ∧ i ≤ 255
structure KindOk (κ : Nat) : Prop where
  st : StepOk κ
  ch : ChainOk κ
  gd : GoodOk κ
theorem kind_0 : KindOk 0 where
  st := fun og K n A h₀ L x d M f rest l S s w prog E q cd Q v kf cx hn ap ok am fit hop hv v0 v1 hq => st_0 kf cx hn ap ok am fit hop (hv (by decide)) v0 v1 hq
  ch := fun og A h₀ L x d M f Pl r1 l S s w prog E q cd Q us cp v V tk tv ap ok lo ht ak av apl hi hlen v0 v1 a0 a1 c0 c1 s0 s1 hq => chain_0 ap ok lo ht ak av apl hi hlen v0 v1 a0 a1 c0 c1 s0 s1 hq
  gd := fun S V z m v g ht v0 v1 => ⟨good_0 g v0 v1, by show S.pc + 1 + 1 = S.pc + 2; omega, (fun i hi => by cases (Option.some.inj hi); exact ⟨v0, by omega⟩)⟩
theorem kind_1 : KindOk 1 where
  st := fun og K n A h₀ L x d M f rest l S s w prog E q cd Q v kf cx hn ap ok am fit hop hv v0 v1 hq => st_1 kf cx hn ap ok am fit hop (hv (by decide)) v0 v1 hq
  ch := fun og A h₀ L x d M f Pl r1 l S s w prog E q cd Q us cp v V tk tv ap ok lo ht ak av apl hi hlen v0 v1 a0 a1 c0 c1 s0 s1 hq => chain_1 ap ok lo ht ak av apl hi hlen v0 v1 a0 a1 c0 c1 s0 s1 hq
  gd := fun S V z m v g ht v0 v1 => ⟨good_1 g v0 v1, by show S.pc + 1 + 1 = S.pc + 2; omega, (fun i hi => by cases (Option.some.inj hi); exact ⟨v0, by omega⟩)⟩
theorem kind_2 : KindOk 2 where
  st := fun og K n A h₀ L x d M f rest l S s w prog E q cd Q v kf cx hn ap ok am fit hop hv v0 v1 hq => st_2 kf cx hn ap ok am fit hop (hv (by decide)) v0 v1 hq
  ch := fun og A h₀ L x d M f Pl r1 l S s w prog E q cd Q us cp v V tk tv ap ok lo ht ak av apl hi hlen v0 v1 a0 a1 c0 c1 s0 s1 hq => chain_2 ap ok lo ht ak av apl hi hlen v0 v1 a0 a1 c0 c1 s0 s1 hq
  gd := fun S V z m v g ht v0 v1 => ⟨good_2 g v0 v1, by show S.pc + 1 + 1 = S.pc + 2; omega, (fun i hi => by cases (Option.some.inj hi); exact ⟨v0, by omega⟩)⟩
theorem kind_3 : KindOk 3 where
  st := fun og K n A h₀ L x d M f rest l S s w prog E q cd Q v kf cx hn ap ok am fit hop hv v0 v1 hq => st_3 kf cx hn ap ok am fit hop (hv (by decide)) v0 v1 hq
  ch := fun og A h₀ L x d M f Pl r1 l S s w prog E q cd Q us cp v V tk tv ap ok lo ht ak av apl hi hlen v0 v1 a0 a1 c0 c1 s0 s1 hq => chain_3 ap ok lo ht ak av apl hi hlen v0 v1 a0 a1 c0 c1 s0 s1 hq
  gd := fun S V z m v g ht v0 v1 => ⟨good_3 g v0 v1, by show S.pc + 1 + 1 = S.pc + 2; omega, (fun i hi => by cases (Option.some.inj hi); exact fm_lo _)⟩
theorem kind_4 : KindOk 4 where
  st := fun og K n A h₀ L x d M f rest l S s w prog E q cd Q v kf cx hn ap ok am fit hop hv v0 v1 hq => st_4 kf cx hn ap ok am fit hop (hv (by decide)) v0 v1 hq
  ch := fun og A h₀ L x d M f Pl r1 l S s w prog E q cd Q us cp v V tk tv ap ok lo ht ak av apl hi hlen v0 v1 a0 a1 c0 c1 s0 s1 hq => chain_4 ap ok lo ht ak av apl hi hlen v0 v1 a0 a1 c0 c1 s0 s1 hq
  gd := fun S V z m v g ht v0 v1 => ⟨good_4 g v0 v1, by show S.pc + 1 + 1 = S.pc + 2; omega, (fun i hi => by cases (Option.some.inj hi); exact fm_lo _)⟩
theorem kind_5 : KindOk 5 where
  st := fun og K n A h₀ L x d M f rest l S s w prog E q cd Q v kf cx hn ap ok am fit hop hv v0 v1 hq => st_5 kf cx hn ap ok am fit hop (hv (by decide)) v0 v1 hq
  ch := fun og A h₀ L x d M f Pl r1 l S s w prog E q cd Q us cp v V tk tv ap ok lo ht ak av apl hi hlen v0 v1 a0 a1 c0 c1 s0 s1 hq => chain_5 ap ok lo ht ak av apl hi hlen v0 v1 a0 a1 c0 c1 s0 s1 hq
  gd := fun S V z m v g ht v0 v1 => ⟨good_5 g v0 v1, by show S.pc + 1 + 1 = S.pc + 2; omega, (fun i hi => by cases (Option.some.inj hi); exact fm_lo _)⟩
theorem kind_6 : KindOk 6 where
  st := fun og K n A h₀ L x d M f rest l S s w prog E q cd Q v kf cx hn ap ok am fit hop hv v0 v1 hq => st_6 kf cx hn ap ok am fit hop (hv (by decide)) v0 v1 hq
  ch := fun og A h₀ L x d M f Pl r1 l S s w prog E q cd Q us cp v V tk tv ap ok lo ht ak av apl hi hlen v0 v1 a0 a1 c0 c1 s0 s1 hq => chain_6 ap ok lo ht ak av apl hi hlen v0 v1 a0 a1 c0 c1 s0 s1 hq
  gd := fun S V z m v g ht v0 v1 => ⟨good_6 g ht v0 v1, by show S.pc + 1 + 1 = S.pc + 2; omega, (fun i hi => by have e : (reck 6 v V).told = V.told := rfl; rw [e, ht] at hi; cases hi)⟩
theorem kind_7 : KindOk 7 where
  st := fun og K n A h₀ L x d M f rest l S s w prog E q cd Q v kf cx hn ap ok am fit hop hv v0 v1 hq => st_7 kf cx hn ap ok am fit hop (hv (by decide)) v0 v1 hq
  ch := fun og A h₀ L x d M f Pl r1 l S s w prog E q cd Q us cp v V tk tv ap ok lo ht ak av apl hi hlen v0 v1 a0 a1 c0 c1 s0 s1 hq => chain_7 ap ok lo ht ak av apl hi hlen v0 v1 a0 a1 c0 c1 s0 s1 hq
  gd := fun S V z m v g ht v0 v1 => ⟨good_7 g v0 v1, by show S.pc + 1 + 1 = S.pc + 2; omega, (fun i hi => by cases (Option.some.inj hi); exact g.oct _)⟩
theorem kind_8 : KindOk 8 where
  st := fun og K n A h₀ L x d M f rest l S s w prog E q cd Q v kf cx hn ap ok am fit hop hv v0 v1 hq => st_8 kf cx hn ap ok am fit hop (hv (by decide)) v0 v1 hq
  ch := fun og A h₀ L x d M f Pl r1 l S s w prog E q cd Q us cp v V tk tv ap ok lo ht ak av apl hi hlen v0 v1 a0 a1 c0 c1 s0 s1 hq => chain_8 ap ok lo ht ak av apl hi hlen v0 v1 a0 a1 c0 c1 s0 s1 hq
  gd := fun S V z m v g ht v0 v1 => ⟨good_8 g v0 v1, by show S.pc + 1 + 1 = S.pc + 2; omega, (fun i hi => by cases (Option.some.inj hi); exact fm_lo _)⟩
theorem kind_9 : KindOk 9 where
  st := fun og K n A h₀ L x d M f rest l S s w prog E q cd Q v kf cx hn ap ok am fit hop hv v0 v1 hq => st_9 kf cx hn ap ok am fit hop v0 v1 hq
  ch := fun og A h₀ L x d M f Pl r1 l S s w prog E q cd Q us cp v V tk tv ap ok lo ht ak av apl hi hlen v0 v1 a0 a1 c0 c1 s0 s1 hq => chain_9 ap ok lo ht ak av apl hi hlen v0 v1 a0 a1 c0 c1 s0 s1 hq
  gd := fun S V z m v g ht v0 v1 => ⟨good_9 g, rfl, (fun i hi => by cases (Option.some.inj hi); exact fm_lo _)⟩
theorem kind_10 : KindOk 10 where
  st := fun og K n A h₀ L x d M f rest l S s w prog E q cd Q v kf cx hn ap ok am fit hop hv v0 v1 hq => st_10 kf cx hn ap ok am fit hop v0 v1 hq
  ch := fun og A h₀ L x d M f Pl r1 l S s w prog E q cd Q us cp v V tk tv ap ok lo ht ak av apl hi hlen v0 v1 a0 a1 c0 c1 s0 s1 hq => chain_10 ap ok lo ht ak av apl hi hlen v0 v1 a0 a1 c0 c1 s0 s1 hq
  gd := fun S V z m v g ht v0 v1 => ⟨good_10 g, rfl, (fun i hi => by have e : some (V.a.fdiv 2) = some i := hi; cases e; have := g.a0; have := g.a1; rw [Int.fdiv_eq_ediv_of_nonneg _ (by decide)]; omega)⟩
theorem kind_11 : KindOk 11 where
  st := fun og K n A h₀ L x d M f rest l S s w prog E q cd Q v kf cx hn ap ok am fit hop hv v0 v1 hq => st_11 kf cx hn ap ok am fit hop v0 v1 hq
  ch := fun og A h₀ L x d M f Pl r1 l S s w prog E q cd Q us cp v V tk tv ap ok lo ht ak av apl hi hlen v0 v1 a0 a1 c0 c1 s0 s1 hq => chain_11 ap ok lo ht ak av apl hi hlen v0 v1 a0 a1 c0 c1 s0 s1 hq
  gd := fun S V z m v g ht v0 v1 => ⟨good_11 g, rfl, (fun i hi => by cases (Option.some.inj hi); exact fm_lo _)⟩
theorem kind_12 : KindOk 12 where
  st := fun og K n A h₀ L x d M f rest l S s w prog E q cd Q v kf cx hn ap ok am fit hop hv v0 v1 hq => st_12 kf cx hn ap ok am fit hop v0 v1 hq
  ch := fun og A h₀ L x d M f Pl r1 l S s w prog E q cd Q us cp v V tk tv ap ok lo ht ak av apl hi hlen v0 v1 a0 a1 c0 c1 s0 s1 hq => chain_12 ap ok lo ht ak av apl hi hlen v0 v1 a0 a1 c0 c1 s0 s1 hq
  gd := fun S V z m v g ht v0 v1 => ⟨good_12 g, rfl, (fun i hi => by cases (Option.some.inj hi); exact ⟨g.a0, g.a1⟩)⟩
theorem kind_13 : KindOk 13 where
  st := fun og K n A h₀ L x d M f rest l S s w prog E q cd Q v kf cx hn ap ok am fit hop hv v0 v1 hq => st_13 kf cx hn ap ok am fit hop v0 v1 hq
  ch := fun og A h₀ L x d M f Pl r1 l S s w prog E q cd Q us cp v V tk tv ap ok lo ht ak av apl hi hlen v0 v1 a0 a1 c0 c1 s0 s1 hq => chain_13 ap ok lo ht ak av apl hi hlen v0 v1 a0 a1 c0 c1 s0 s1 hq
  gd := fun S V z m v g ht v0 v1 => ⟨good_13 g ht, rfl, (fun i hi => by have e : (reck 13 v V).told = V.told := rfl; rw [e, ht] at hi; cases hi)⟩
theorem kind_14 : KindOk 14 where
  st := fun og K n A h₀ L x d M f rest l S s w prog E q cd Q v kf cx hn ap ok am fit hop hv v0 v1 hq => st_14 kf cx hn ap ok am fit hop v0 v1 hq
  ch := fun og A h₀ L x d M f Pl r1 l S s w prog E q cd Q us cp v V tk tv ap ok lo ht ak av apl hi hlen v0 v1 a0 a1 c0 c1 s0 s1 hq => chain_14 ap ok lo ht ak av apl hi hlen v0 v1 a0 a1 c0 c1 s0 s1 hq
  gd := fun S V z m v g ht v0 v1 => ⟨good_14 g, rfl, (fun i hi => by cases (Option.some.inj hi); exact g.oct _)⟩
theorem kind_15 : KindOk 15 where
  st := fun og K n A h₀ L x d M f rest l S s w prog E q cd Q v kf cx hn ap ok am fit hop hv v0 v1 hq => st_15 kf cx hn ap ok am fit hop v0 v1 hq
  ch := fun og A h₀ L x d M f Pl r1 l S s w prog E q cd Q us cp v V tk tv ap ok lo ht ak av apl hi hlen v0 v1 a0 a1 c0 c1 s0 s1 hq => chain_15 ap ok lo ht ak av apl hi hlen v0 v1 a0 a1 c0 c1 s0 s1 hq
  gd := fun S V z m v g ht v0 v1 => ⟨good_15 g ht, rfl, (fun i hi => by have e : (reck 15 v V).told = V.told := rfl; rw [e, ht] at hi; cases hi)⟩
theorem kind_all : ∀ κ, κ < 16 → KindOk κ
  | 0, _ => kind_0
  | 1, _ => kind_1
  | 2, _ => kind_2
  | 3, _ => kind_3
  | 4, _ => kind_4
  | 5, _ => kind_5
  | 6, _ => kind_6
  | 7, _ => kind_7
  | 8, _ => kind_8
  | 9, _ => kind_9
  | 10, _ => kind_10
  | 11, _ => kind_11
  | 12, _ => kind_12
  | 13, _ => kind_13
  | 14, _ => kind_14
  | 15, _ => kind_15
  | κ + 16, h => absurd h (by omega)
theorem body11 : forBody pw 11 = [nthS 0 (forBody pw 11), nthS 1 (forBody pw 11), nthS 2 (forBody pw 11), nthS 3 (forBody pw 11), nthS 4 (forBody pw 11), nthS 5 (forBody pw 11), nthS 6 (forBody pw 11)] := by kernel_rfl
def keepN : List Str := [Str.ofString "mpu", Str.ofString "plain", Str.ofString "wide", Str.ofString "memory"]
section
variable {og o9 : OsState × Drawn} {g9 : Array GenState} {K : Frag} {n : Nat} {A : Around} {h₀ : Heap} {L x d M f Pl W T : Addr} {rest r1 : List (Addr × Obj)} {l : List (Str × Value)} {S : MS} {s : Shared} {w : World} {prog : Program} {E : Value → Shared → Prop} {q : Str} {cd : Value} {us wv : List Value} {cp cw : Nat} {v p z m : Int} {κ : Nat} {V : LV} {t u tk tv tp : Tok} {pos : Pos}
theorem r_pair {e1 e2 : PySem.Expr} {env : Env} {k : Nat} {v1 v2 : Value} {c : Nat} {Q : Unit → Shared → Prop} (hh : A.handled = none) (ok : Ok og w x d M rest h₀ L l S s.heap (s.os, s.drawn) s.gens) (hm : (T, ({ cls := .type "tuple", data := .seq [v1, v2].toArray c } : Obj)) ∈ rest)
    (he : (assignEach [e1, e2] env).map (·.2) = [assign e1 env, assign e2 env]) (hst : (assignEach [e1, e2] env).findIdx? (·.1) = none) (hl : (assignEach [e1, e2] env).length = 2)
    (h : ∀ s', Ok og w x d M rest h₀ L l S s'.heap (s'.os, s'.drawn) s'.gens → wpAny (model prog w) A (assign e1 env v1) (fun _ s₁ => wpAny (model prog w) A (assign e2 env v2) (fun _ s₂ => Q () s₂) E s₁) E s') : wpAny (model prog w) A (assign (.Tuple [e1, e2] k pos) env (.ref T)) Q E s := by
  obtain ⟨F, k', v, dn, c', vs, N, hv, hi, ho9⟩ := ok
  refine l_pair hh ⟨F, N, ho9⟩ (.tail _ (.tail _ (.tail _ hm))) he hst hl fun s' lw => h s' ⟨lw.F, k', v, dn, c', vs, lw.N, hv, hi, lw.O⟩
theorem turn11 (hκ : κ < 16) (hh : A.handled = none) (hu : A.units + 64 < cLine) (kf : KF K) (cx : Cx K n A (envOf q (lawD pw).scope L f cd) h₀ L) (hn : n < 50) (ap : ∀ us, Ap x d M ((Pl, listOf (List.toArray us) cp) :: r1)) (ap2 : Ap2 x d M Pl r1) (ok : Ok og w x d M ((Pl, listOf us.toArray cp) :: r1) h₀ L l S s.heap (s.os, s.drawn) s.gens)
    (hT : (T, tup2 κ v tk tv) ∈ r1) (hW : (W, listOf wv.toArray cw) ∈ r1) (hwi : IntsAre wv [0, 1, 2, 3, 4, 5, 6, 7, 8]) (lo : Loc0 l V) (az : AtI l (Str.ofString "zero") z) (am : AtI l (Str.ofString "minus") m) (app : AtI l (Str.ofString "place") S.pc)
    (amp : At l (Str.ofString "mpu") (.ref x)) (apl : At l (Str.ofString "plain") (.ref Pl)) (awd : At l (Str.ofString "wide") (.ref W)) (ame : At l (Str.ofString "memory") (.ref M)) (hi : IntsAre us V.pl) (g : Good S { V with told := none } z m) (pc0 : 0 ≤ S.pc) (pc1 : S.pc + 1 < 768)
    (hop : S.mem.getD S.pc.toNat 0 = opOf (κ : Int)) (hv : κ ≤ 8 → S.mem.getD (S.pc + 1).toNat 0 = v) (v0 : 0 ≤ v) (v1 : v < 256) :
    wpAny (model prog w) A (assign (forTgt pw 11) (envOf q (lawD pw).scope L f cd) (.ref T)) (fun _ s₂ => wpAny (model prog w) A (execs (forBody pw 11) (envOf q (lawD pw).scope L f cd))
      (fun fl s₃ => fl = .next ∧ ∃ l' ws V' z' m', Ok og w x d M ((Pl, listOf (List.toArray ws) cp) :: r1) h₀ L l' (stepS κ v S) s₃.heap (s₃.os, s₃.drawn) s₃.gens ∧ IntsAre ws V'.pl ∧ Loc0 l' V' ∧ AtI l' (Str.ofString "zero") z' ∧ AtI l' (Str.ofString "minus") m' ∧ AtI l' (Str.ofString "place") (stepS κ v S).pc ∧
        At l' (Str.ofString "mpu") (.ref x) ∧ At l' (Str.ofString "plain") (.ref Pl) ∧ At l' (Str.ofString "wide") (.ref W) ∧ At l' (Str.ofString "memory") (.ref M) ∧ Good (stepS κ v S) { V' with told := none } z' m' ∧ (stepS κ v S).pc = S.pc + wid (κ : Int) ∧ V' = reck κ v { V with told := none }) (fun _ _ => False) s₂) (fun _ _ => False) s := by
  obtain ⟨kst, kch, kgd⟩ := kind_all κ hκ
  obtain ⟨tp, hplace⟩ := app
  obtain ⟨gd, gpc, gtold⟩ := kgd S { V with told := none } z m v g rfl v0 v1
  have fit : Fit S := ⟨by rw [g.mem]; exact g.len, pc0, pc1, by rw [g.a]; exact g.a0, by rw [g.a]; exact g.a1, by rw [g.st]; exact g.s0, by rw [g.st]; exact g.s1, by rw [g.p]; exact p_dec g.bc g.bz g.bo g.bm⟩
  have hcb : 0 ≤ V.c ∧ V.c ≤ 1 := by have := g.bc; unfold Bit at this; dsimp only at this; omega
  refine r_pair hh ok (.tail _ hT) (by kernel_rfl) (by kernel_rfl) (by kernel_rfl) ?_
  intro s1 ok1
  refine wpAny_assign_Name (r_sto ok1 ?_)
  intro s2 ok2
  refine wpAny_assign_Name (r_sto ok2 ?_)
  intro s3 ok3
  rw [body11]
  refine wpAny_execs_cons ?_
  refine kst _ K n A h₀ L x d M f _ _ S s3 w prog _ q cd _ v kf cx hn (ap us) ok3 (At.there (by kernel_rfl) (At.there (by kernel_rfl) amp)) fit hop hv v0 v1 ?_
  intro s4 ok4
  refine wpAny_execs_cons ?_
  refine b1 ok4 (At.there (by kernel_rfl) At.here) (At.there (by kernel_rfl) (At.there (by kernel_rfl) awd)) (.tail _ hW) hwi (Int.natCast_nonneg κ) (At.there (by kernel_rfl) (At.there (by kernel_rfl) hplace)) ?_
  intro t5 s5 ok5
  refine wpAny_execs_cons ?_
  refine b2 ok5 ?_
  intro s6 ok6
  refine wpAny_execs_cons ?_
  obtain ⟨⟨ta, ha⟩, ⟨tx, hx⟩, ⟨ty, hy⟩, ⟨ts, hs⟩, ⟨tc, hc⟩, ⟨to, ho⟩⟩ := lo
  have lo6 : Loc ((Str.ofString "told", .none) :: (Str.ofString "place", .int (S.pc + wid (κ : Int)) t5) :: (Str.ofString "value", .int v tv) :: (Str.ofString "kind", .int (κ : Int) tk) :: l) { V with told := none } :=
    ⟨⟨_, At.there (by kernel_rfl) (At.there (by kernel_rfl) (At.there (by kernel_rfl) (At.there (by kernel_rfl) ha)))⟩, ⟨_, At.there (by kernel_rfl) (At.there (by kernel_rfl) (At.there (by kernel_rfl) (At.there (by kernel_rfl) hx)))⟩, ⟨_, At.there (by kernel_rfl) (At.there (by kernel_rfl) (At.there (by kernel_rfl) (At.there (by kernel_rfl) hy)))⟩,
     ⟨_, At.there (by kernel_rfl) (At.there (by kernel_rfl) (At.there (by kernel_rfl) (At.there (by kernel_rfl) hs)))⟩, ⟨_, At.there (by kernel_rfl) (At.there (by kernel_rfl) (At.there (by kernel_rfl) (At.there (by kernel_rfl) hc)))⟩, ⟨_, At.there (by kernel_rfl) (At.there (by kernel_rfl) (At.there (by kernel_rfl) (At.there (by kernel_rfl) ho)))⟩, At.here⟩
  have pushed : ∀ nm y, (nm == Str.ofString "told") = false → (nm == Str.ofString "place") = false → (nm == Str.ofString "value") = false → (nm == Str.ofString "kind") = false → At l nm y → At ((Str.ofString "told", .none) :: (Str.ofString "place", .int (S.pc + wid (κ : Int)) t5) :: (Str.ofString "value", .int v tv) :: (Str.ofString "kind", .int (κ : Int) tk) :: l) nm y := fun nm y e1 e2 e3 e4 h => At.there e1 (At.there e2 (At.there e3 (At.there e4 h)))
  refine kch _ A h₀ L x d M f Pl r1 _ _ s6 w prog _ q cd _ us cp v { V with told := none } tk tv ap2 ok6 lo6 rfl (At.there (by kernel_rfl) (At.there (by kernel_rfl) (At.there (by kernel_rfl) At.here))) (At.there (by kernel_rfl) (At.there (by kernel_rfl) At.here)) (pushed _ _ (by kernel_rfl) (by kernel_rfl) (by kernel_rfl) (by kernel_rfl) apl) hi g.len v0 v1 g.a0 g.a1 hcb.1 hcb.2 g.s0 g.s1 ?_
  intro s7 l7 ws lo7 kp7 ok7 hi7
  obtain ⟨tz, hz⟩ := az
  obtain ⟨tm, hm⟩ := am
  refine wpAny_execs_cons ?_
  refine b4 (V := reck κ v { V with told := none }) ok7 lo7.told ⟨_, kp7 _ _ (by kernel_rfl) (pushed _ _ (by kernel_rfl) (by kernel_rfl) (by kernel_rfl) (by kernel_rfl) hz)⟩ ⟨_, kp7 _ _ (by kernel_rfl) (pushed _ _ (by kernel_rfl) (by kernel_rfl) (by kernel_rfl) (by kernel_rfl) hm)⟩ gtold ?_
  intro s8 l8 kp8 az8 am8 ok8
  have keep : ∀ nm y, (chNames.any (nm == ·)) = false → (nm == Str.ofString "zero") = false → (nm == Str.ofString "minus") = false → (nm == Str.ofString "told") = false → (nm == Str.ofString "place") = false → (nm == Str.ofString "value") = false → (nm == Str.ofString "kind") = false → At l nm y → At l8 nm y :=
    fun nm y e0 z1 z2 e1 e2 e3 e4 h => kp8 nm y z1 z2 (kp7 nm y e0 (pushed nm y e1 e2 e3 e4 h))
  have amp8 := keep _ _ (by kernel_rfl) (by kernel_rfl) (by kernel_rfl) (by kernel_rfl) (by kernel_rfl) (by kernel_rfl) (by kernel_rfl) amp
  have apl8 := keep _ _ (by kernel_rfl) (by kernel_rfl) (by kernel_rfl) (by kernel_rfl) (by kernel_rfl) (by kernel_rfl) (by kernel_rfl) apl
  have awd8 := keep _ _ (by kernel_rfl) (by kernel_rfl) (by kernel_rfl) (by kernel_rfl) (by kernel_rfl) (by kernel_rfl) (by kernel_rfl) awd
  have ame8 := keep _ _ (by kernel_rfl) (by kernel_rfl) (by kernel_rfl) (by kernel_rfl) (by kernel_rfl) (by kernel_rfl) (by kernel_rfl) ame
  have lo8 : Loc0 l8 (reck κ v { V with told := none }) := by
    obtain ⟨⟨ta, ha⟩, ⟨tx, hx⟩, ⟨ty, hy⟩, ⟨ts, hs⟩, ⟨tc, hc⟩, ⟨to, ho⟩, _⟩ := lo7
    exact ⟨⟨_, kp8 _ _ (by kernel_rfl) (by kernel_rfl) ha⟩, ⟨_, kp8 _ _ (by kernel_rfl) (by kernel_rfl) hx⟩, ⟨_, kp8 _ _ (by kernel_rfl) (by kernel_rfl) hy⟩, ⟨_, kp8 _ _ (by kernel_rfl) (by kernel_rfl) hs⟩, ⟨_, kp8 _ _ (by kernel_rfl) (by kernel_rfl) hc⟩, ⟨_, kp8 _ _ (by kernel_rfl) (by kernel_rfl) ho⟩⟩
  have app8 : At l8 (Str.ofString "place") (.int (stepS κ v S).pc t5) := by
    rw [gpc]
    exact kp8 _ _ (by kernel_rfl) (by kernel_rfl) (kp7 _ _ (by kernel_rfl) (At.there (by kernel_rfl) At.here))
  refine wpAny_execs_cons ?_
  refine b5 (V := reck κ v { V with told := none }) hu kf cx (ap ws) ok8 lo8 amp8 ame8 apl8 (.head _) hi7 app8 gd.a gd.x gd.y gd.st gd.mem ?_
  intro s9 ok9
  refine wpAny_execs_cons ?_
  refine b6 (V := reck κ v { V with told := none }) (z := zOf (reck κ v { V with told := none }).told z) (m := mOf (reck κ v { V with told := none }).told m) kf cx (ap ws) ok9 lo8 az8 am8 amp8 ?_ ?_ ?_
  · have h1 := gd.bz
    have h2 := gd.bm
    have h3 := gd.bo
    unfold Bit at h1 h2 h3
    omega
  · rw [gd.p]
    exact p_195 gd.bc gd.bz gd.bo gd.bm
  intro s10 ok10
  refine wpAny_execs_nil ?_
  exact ⟨rfl, l8, ws, _, _, _, ok10, hi7, lo8, az8, am8, ⟨_, app8⟩, amp8, apl8, awd8, ame8, { gd with }, gpc, rfl⟩
end
def clen : List (Nat × Int) → Int
  | [] => 0
  | (k, _) :: r => wid (k : Int) + clen r
theorem wid_lo (k : Int) : 1 ≤ wid k ∧ wid k ≤ 2 := by unfold wid; cases decide (k ≤ 8) <;> simp
theorem clen_lo : ∀ l : List (Nat × Int), 0 ≤ clen l ∧ clen l ≤ 2 * l.length
  | [] => ⟨by decide, by decide⟩
  | (k, v) :: r => by
    have := clen_lo r
    have := wid_lo (k : Int)
    simp only [clen, List.length_cons]
    omega
theorem clen_app : ∀ l r : List (Nat × Int), clen (l ++ r) = clen l + clen r
  | [], r => by simp [clen]
  | (k, v) :: l, r => by
    simp only [List.cons_append, clen, clen_app l r]
    omega
theorem clen_take {kv : List (Nat × Int)} {i k : Nat} {v : Int} (h : kv[i]? = some (k, v)) : clen (kv.take (i + 1)) = clen (kv.take i) + wid (k : Int) := by
  rw [List.take_add_one, h, clen_app]
  simp [clen]
theorem clen_mono (kv : List (Nat × Int)) {i j : Nat} (h : i ≤ j) : clen (kv.take i) ≤ clen (kv.take j) := by
  have e : kv.take j = kv.take i ++ (kv.take j).drop i := by
    have := List.take_append_drop i (kv.take j)
    rw [List.take_take, Nat.min_eq_left h] at this
    exact this.symm
  rw [e, clen_app]
  have := (clen_lo ((kv.take j).drop i)).1
  omega
/-- the code of the first i instructions stands in the memory -/
def CodeIn (mem : List Int) (kv : List (Nat × Int)) (i : Nat) : Prop := ∀ j k v, j < i → kv[j]? = some (k, v) → mem.getD (512 + clen (kv.take j)).toNat 0 = opOf (k : Int) ∧ (k ≤ 8 → mem.getD (512 + clen (kv.take j) + 1).toNat 0 = v)
def Octs (mem : List Int) : Prop := mem.length = 768 ∧ ∀ i, 0 ≤ mem.getD i 0 ∧ mem.getD i 0 ≤ 255
theorem getD_set_ne {l : List Int} {i j : Nat} {v : Int} (h : i ≠ j) : (l.set i v).getD j 0 = l.getD j 0 := by
  simp only [List.getD_eq_getElem?_getD, List.getElem?_set, if_neg h]
theorem getD_set_eq {l : List Int} {i : Nat} {v : Int} (h : i < l.length) : (l.set i v).getD i 0 = v := by
  simp only [List.getD_eq_getElem?_getD, List.getElem?_set, if_pos, h, Option.getD_some]
theorem opOf_oct {k : Nat} (h : k < 16) : 0 ≤ opOf (k : Int) ∧ opOf (k : Int) ≤ 255 := by
  have : ∀ k : Fin 16, 0 ≤ opOf (k.val : Int) ∧ opOf (k.val : Int) ≤ 255 := by decide
  exact this ⟨k, h⟩
theorem octs_set {mem : List Int} (h : Octs mem) {k : Nat} {v : Int} (h0 : 0 ≤ v) (h1 : v ≤ 255) : Octs (mem.set k v) := ⟨by rw [List.length_set]; exact h.1, oct_set h.2 h0 h1⟩
theorem code_step {mem : List Int} {kv : List (Nat × Int)} {i k : Nat} {v : Int} (ho : Octs mem) (hc : CodeIn mem kv i) (hl : kv.length ≤ 10) (h : kv[i]? = some (k, v)) (hk : k < 16) (v0 : 0 ≤ v) (v1 : v < 256) :
    Octs (lay1 mem (512 + clen (kv.take i)) k v) ∧ CodeIn (lay1 mem (512 + clen (kv.take i)) k v) kv (i + 1) := by
  have ok := opOf_oct hk
  have hi : i < kv.length := by
    rcases Nat.lt_or_ge i kv.length with h' | h'
    · exact h'
    · rw [List.getElem?_eq_none h'] at h; cases h
  have cl := clen_lo (kv.take i)
  have hlen : (kv.take i).length ≤ 9 := by rw [List.length_take]; omega
  have l768 := ho.1
  constructor
  · unfold lay1
    cases decide ((k : Int) ≤ 8)
    · exact octs_set ho ok.1 ok.2
    · exact octs_set (octs_set ho ok.1 ok.2) v0 (by omega)
  · intro j k' v' hj hkv
    have cj := clen_lo (kv.take j)
    rcases Nat.lt_or_ge j i with hji | hji
    · have old := hc j k' v' hji hkv
      have e1 := clen_take hkv
      have e2 := clen_mono kv (show j + 1 ≤ i by omega)
      have w := wid_lo (k' : Int)
      have n1 : (512 + clen (kv.take i)).toNat ≠ (512 + clen (kv.take j)).toNat := by omega
      have n2 : (512 + clen (kv.take i) + 1).toNat ≠ (512 + clen (kv.take j)).toNat := by omega
      have wk : k' ≤ 8 → wid (k' : Int) = 2 := fun hk8 => by unfold wid; rw [decide_eq_true (show (k' : Int) ≤ 8 by omega)]; rfl
      unfold lay1
      cases decide ((k : Int) ≤ 8)
      · simp only [cond_false]
        refine ⟨(getD_set_ne n1).trans old.1, fun hk8 => ?_⟩
        have := wk hk8
        exact (getD_set_ne (by omega)).trans (old.2 hk8)
      · simp only [cond_true]
        refine ⟨(getD_set_ne n2).trans ((getD_set_ne n1).trans old.1), fun hk8 => ?_⟩
        have := wk hk8
        exact (getD_set_ne (by omega)).trans ((getD_set_ne (by omega)).trans (old.2 hk8))
    · obtain rfl : j = i := by omega
      rw [h] at hkv
      obtain ⟨rfl, rfl⟩ : k = k' ∧ v = v' := by simpa using hkv
      unfold lay1
      by_cases hk8 : (k : Int) ≤ 8
      · rw [decide_eq_true hk8]
        simp only [cond_true]
        refine ⟨(getD_set_ne (by omega)).trans (getD_set_eq (by omega)), fun _ => getD_set_eq (by rw [List.length_set]; omega)⟩
      · rw [decide_eq_false hk8]
        simp only [cond_false]
        exact ⟨getD_set_eq (by omega), fun h8 => absurd h8 (by omega)⟩
theorem keep_code {κ : Nat} (hκ : κ < 16) {v : Int} {V : LV} (v0 : 0 ≤ v) (v1 : v < 256) (s0 : 0 ≤ V.st) (s1 : V.st ≤ 255) {j : Nat} (hj : 512 ≤ j) : (reck κ v V).pl.getD j 0 = V.pl.getD j 0 := by
  match κ, hκ with
  | 0, _ => rfl
  | 1, _ => rfl
  | 2, _ => rfl
  | 3, _ => rfl
  | 4, _ => rfl
  | 5, _ => rfl
  | 6, _ => exact getD_set_ne (by omega)
  | 7, _ => rfl
  | 8, _ => exact getD_set_ne (by omega)
  | 9, _ => rfl
  | 10, _ => rfl
  | 11, _ => rfl
  | 12, _ => rfl
  | 13, _ => exact getD_set_ne (by omega)
  | 14, _ => rfl
  | 15, _ => rfl
  | κ + 16, h => exact absurd h (by omega)
theorem code_keep {κ : Nat} (hκ : κ < 16) {v : Int} {V : LV} (v0 : 0 ≤ v) (v1 : v < 256) (s0 : 0 ≤ V.st) (s1 : V.st ≤ 255) {kv : List (Nat × Int)} {i : Nat} (h : CodeIn V.pl kv i) : CodeIn (reck κ v V).pl kv i := by
  intro j k v' hj hkv
  have cj := clen_lo (kv.take j)
  rw [keep_code hκ v0 v1 s0 s1 (by omega), keep_code hκ v0 v1 s0 s1 (by omega)]
  exact h j k v' hj hkv
/-- the codes' list and its pairs -/
structure Tups (cs : List Value) (kv : List (Nat × Int)) (tups : List (Addr × Obj)) : Prop where
  len : cs.length = kv.length
  at_ : ∀ (i k : Nat) (v : Int), kv[i]? = some (k, v) → k < 16 ∧ 0 ≤ v ∧ v < 256 ∧ ∃ T t u, cs[i]? = some (Value.ref T) ∧ (T, tup2 (k : Int) v t u) ∈ tups
theorem Tups.nil : Tups [] [] [] := ⟨rfl, fun i k v h => by simp at h⟩
theorem Tups.more {cs : List Value} {kv : List (Nat × Int)} {tups : List (Addr × Obj)} (h : Tups cs kv tups) {T : Addr} {k : Nat} {v : Int} {t u : Tok} (hk : k < 16) (v0 : 0 ≤ v) (v1 : v < 256) : Tups (cs ++ [Value.ref T]) (kv ++ [(k, v)]) ((T, tup2 (k : Int) v t u) :: tups) := by
  refine ⟨by simp [h.len], fun i k' v' hi => ?_⟩
  rcases Nat.lt_or_ge i kv.length with hlt | hge
  · rw [List.getElem?_append_left hlt] at hi
    obtain ⟨a, b, c, T', t', u', e1, e2⟩ := h.at_ i k' v' hi
    exact ⟨a, b, c, T', t', u', by rw [List.getElem?_append_left (by rw [h.len]; exact hlt)]; exact e1, .tail _ e2⟩
  · rw [List.getElem?_append_right hge] at hi
    have hi0 : i - kv.length = 0 := by
      rcases Nat.eq_zero_or_pos (i - kv.length) with e | e
      · exact e
      · rw [List.getElem?_eq_none (by simp; omega)] at hi; cases hi
    rw [hi0] at hi
    obtain ⟨rfl, rfl⟩ : k = k' ∧ v = v' := by simpa using hi
    exact ⟨hk, v0, v1, T, t, u, by rw [List.getElem?_append_right (by rw [h.len]; exact hge), h.len, hi0]; rfl, .head _⟩
theorem bodyL : (lawD pw).body = [nthS 0 (lawD pw).body, nthS 1 (lawD pw).body, nthS 2 (lawD pw).body, nthS 3 (lawD pw).body, nthS 4 (lawD pw).body, nthS 5 (lawD pw).body, nthS 6 (lawD pw).body, nthS 7 (lawD pw).body, nthS 8 (lawD pw).body, nthS 9 (lawD pw).body, nthS 10 (lawD pw).body, nthS 11 (lawD pw).body, nthS 12 (lawD pw).body] := by kernel_rfl
theorem flat0 (n : Nat) : (List.replicate n [(0 : Int)]).flatten = List.replicate n 0 := by
  induction n with
  | zero => rfl
  | succ n ih => rw [List.replicate_succ, List.flatten_cons, ih, List.replicate_succ]; rfl
theorem rep0 (n i : Nat) : (List.replicate n (0 : Int)).getD i 0 = 0 := by
  simp only [List.getD_eq_getElem?_getD, List.getElem?_replicate]
  split <;> rfl
theorem octs0 : Octs (List.replicate 768 [(0 : Int)]).flatten := by
  rw [flat0]
  exact ⟨List.length_replicate, fun i => by rw [rep0]; exact ⟨Int.le_refl 0, by decide⟩⟩
section
variable {og o9 : OsState × Drawn} {g9 : Array GenState} {K : Frag} {n : Nat} {A : Around} {h₀ : Heap} {L f a : Addr} {news : List (Addr × Obj)} {l : List (Str × Value)} {s : Shared} {w : World} {prog : Program} {E : Value → Shared → Prop} {q : Str} {cd : Value} {Q : Flow → Shared → Prop} {sv : List Value} {ns : List Int}
theorem s0 (lw : Lw og h₀ L l [] s.heap (s.os, s.drawn) s.gens) (hq : ∀ M l0 ws o s', l0 < M → IntsAre ws (List.replicate 768 [(0 : Int)]).flatten → Lw og h₀ L ((Str.ofString "memory", .ref M) :: l) [(M, listOf (List.toArray ws) 0), (l0, o)] s'.heap (s'.os, s'.drawn) s'.gens → Q .next s') :
    wpAny (model prog w) A (exec (nthS 0 (lawD pw).body) (envOf q (lawD pw).scope L f cd)) Q E s := by
  refine wpAny_Assign_Name ?_ (by kernel_rfl)
  repeat' (walk_at "lw")
  refine l_newList (by walk_at "asm") (Nat.le_of_ble_eq_true rfl) ?_
  intro l0 s1 lt1 lw1
  repeat' (walk_at "lw")
  refine l_rep (by walk_at "asm") (.head _) (ns := [0]) (by repeat constructor) (by decide) (by decide) (Nat.le_of_ble_eq_true rfl) ?_
  intro M s2 ws lt2 lw2 hi2
  repeat' (walk_at "lw")
  exact hq M l0 ws _ _ (lt2 _ (.head _)) hi2 (by walk_at "asm")
theorem s1 {M l0 : Addr} {ws : List Value} {o : Obj} (hh : A.handled = none) (ki : KI K) (cx : Cx K n A (envOf q (lawD pw).scope L f cd) h₀ L) (lw : Lw og h₀ L l [(M, listOf (List.toArray ws) 0), (l0, o)] s.heap (s.os, s.drawn) s.gens) (hlt : l0 < M) (am : At l (Str.ofString "memory") (.ref M)) {ns0 : List Int} (hi : IntsAre ws ns0) (ho : Octs ns0) {sv : Value} (as : At l (Str.ofString "script") sv)
    (hq : ∀ l' ws' ns' s', Lw og h₀ L l' [(M, listOf (List.toArray ws') 0), (l0, o)] s'.heap (s'.os, s'.drawn) s'.gens → At l' (Str.ofString "memory") (.ref M) → At l' (Str.ofString "script") sv → IntsAre ws' ns' → Octs ns' → Q .next s') :
    wpAny (model prog w) A (exec (nthS 1 (lawD pw).body) (envOf q (lawD pw).scope L f cd)) Q E s := by
  refine wpAny_For ?_ (by intro _; kernel_rfl)
  refine Call_ ?_ (by kernel_rfl)
  refine l_glob cx.X cx.T lw ki.g_range boot_range (by decide) ?_
  refine callWith_type1 ?_ (by kernel_rfl) (by kernel_rfl)
  repeat' (walk_at "lw")
  refine l_range2 (by walk_at "asm") ?_
  intro r s1 t1 u1 v1 hr lw1
  refine for_range (n := 256) (target := forTgt pw 1) (body := forBody pw 1) hh lw1 hr (by decide) (by decide) (by intro _; kernel_rfl) (fun i l' news' => ∃ ws' ns', news' = [(M, listOf (List.toArray ws') 0), (l0, o)] ∧ At l' (Str.ofString "memory") (.ref M) ∧ At l' (Str.ofString "script") sv ∧ IntsAre ws' ns' ∧ Octs ns') ⟨ws, ns0, rfl, am, as, hi, ho⟩ ?_ ?_
  · rintro i t l₁ news₁ s₁ own I hI hin ⟨ws', ns', rfl, am', as', hi', ho'⟩ hn hown hown2 lw₁
    have hMI : M < I := hI (M, _) (.head _)
    have e : (0 : Int) + (i : Int) * 1 = (i : Int) := by omega
    rw [e]
    refine wpAny_mono (turn1 (c := 0) (k := (i : Int)) (r0 := own ++ [(l0, o)]) (lw₁.sub fun p hp => ?_) ?_ am' hi' ho'.1 (by omega) (by omega)) (fun _ s₂ h₂ => wpAny_mono h₂ (fun fl s₃ h₃ => ?_) fun _ _ x => x) fun _ _ x => x
    · simp only [List.mem_cons, List.mem_append] at hp ⊢
      rcases hp with h | h | h
      · exact .inr (.inl h)
      · exact .inl h
      · exact .inr (.inr h)
    · intro p hp
      rcases List.mem_append.mp hp with h | h
      · rw [hown p h]; exact Nat.ne_of_gt hMI
      · rw [List.mem_singleton.mp h]; exact Nat.ne_of_lt hlt
    · obtain ⟨rfl, ws3, lw3, hi3⟩ := h₃
      refine ⟨_, [(M, listOf (List.toArray ws3) 0), (l0, o)], lw3.sub fun p hp => ?_, fun p hp => ?_, ws3, _, rfl, At.there (by kernel_rfl) am', At.there (by kernel_rfl) as', hi3, octs_set ho' (fm_lo _).1 (fm_lo _).2⟩
      · simp only [List.mem_cons, List.mem_append] at hp ⊢
        rcases hp with h | h | h
        · exact .inr (.inl h)
        · exact .inl h
        · exact .inr (.inr h)
      · have hl0 : l0 < I := hI (l0, _) (.tail _ (.head _))
        simp only [List.mem_cons, List.not_mem_nil, or_false] at hp
        rcases hp with rfl | rfl
        · exact Nat.ne_of_lt hMI
        · exact Nat.ne_of_lt hl0
  · rintro l' news' s' lw' ⟨ws', ns', rfl, am', as', hi', ho'⟩
    exact hq l' ws' ns' s' lw' am' as' hi' ho'
end
section
variable {og o9 : OsState × Drawn} {g9 : Array GenState} {K : Frag} {n : Nat} {A : Around} {h₀ : Heap} {L f a : Addr} {base news : List (Addr × Obj)} {l : List (Str × Value)} {s : Shared} {w : World} {prog : Program} {E : Value → Shared → Prop} {q : Str} {cd : Value} {Q : Flow → Shared → Prop} {sv : List Value} {ns : List Int}
theorem s2 (lw : Lw og h₀ L l news s.heap (s.os, s.drawn) s.gens) (hq : ∀ D s', (∀ p ∈ news, p.1 < D) → Lw og h₀ L ((Str.ofString "codes", .ref D) :: l) ((D, listOf (List.toArray ([] : List Value)) 0) :: news) s'.heap (s'.os, s'.drawn) s'.gens → Q .next s') :
    wpAny (model prog w) A (exec (nthS 2 (lawD pw).body) (envOf q (lawD pw).scope L f cd)) Q E s := by
  refine wpAny_Assign_Name ?_ (by kernel_rfl)
  repeat' (walk_at "lw")
  refine l_newList (by walk_at "asm") (Nat.le_of_ble_eq_true rfl) ?_
  intro D s1 lt1 lw1
  repeat' (walk_at "lw")
  exact hq D _ lt1 (by walk_at "asm")
theorem range_n (m : Nat) : Builtin.Range.rangeSize 0 ((m : Int) - 1) 2 = ((m / 2 : Nat) : Int) := by
  unfold Builtin.Range.rangeSize
  rw [if_pos (by decide)]
  split <;> omega
/-- what stands behind the third statement's turns -/
def J3 (D : Addr) (base : List (Addr × Obj)) (lk : List (Str × Value)) (i : Nat) (l' : List (Str × Value)) (news' : List (Addr × Obj)) : Prop :=
  ∃ cs c kv tups, news' = (D, listOf (List.toArray cs) c) :: (tups ++ base) ∧ kv.length = i ∧ Tups cs kv tups ∧ (∀ p ∈ tups, D < p.1 ∧ ∀ b ∈ base, b.1 < p.1) ∧ At l' (Str.ofString "codes") (.ref D) ∧ ∀ nm v, (nm == Str.ofString "place") = false → (nm == Str.ofString "kind") = false → (nm == Str.ofString "value") = false → At lk nm v → At l' nm v
theorem s3 {D : Addr} (hh : A.handled = none) (ki : KI K) (cx : Cx K n A (envOf q (lawD pw).scope L f cd) h₀ L) (lw : Lw og h₀ L l ((D, listOf (List.toArray ([] : List Value)) 0) :: base) s.heap (s.os, s.drawn) s.gens) (hlt : ∀ p ∈ base, p.1 < D) (ac : At l (Str.ofString "codes") (.ref D)) (as : At l (Str.ofString "script") (.ref a))
    (hl : h₀.IsList a sv.toArray) (hi : IntsAre sv ns) (hz : ns.length ≤ 63)
    (hq : ∀ l' news' m s', m ≤ 10 → Lw og h₀ L l' news' s'.heap (s'.os, s'.drawn) s'.gens → J3 D base l m l' news' → Q .next s') :
    wpAny (model prog w) A (exec (nthS 3 (lawD pw).body) (envOf q (lawD pw).scope L f cd)) Q E s := by
  have hsv : sv.length ≤ 1000 := by rw [hi.length]; omega
  refine wpAny_For ?_ (by intro _; kernel_rfl)
  refine Call_ ?_ (by kernel_rfl)
  refine l_glob cx.X cx.T lw ki.g_range boot_range (by decide) ?_
  refine callWith_type1 ?_ (by kernel_rfl) (by kernel_rfl)
  repeat' (walk_at "lw")
  refine Call_ ?_ (by kernel_rfl)
  refine l_glob cx.X cx.T (by walk_at "asm") ki.g_len boot_len (by decide) ?_
  refine callWith_builtin1 ?_ (by kernel_rfl) (by kernel_rfl)
  repeat' (walk_at "lw")
  refine l_upto (ns := ns) (by walk_at "asm") (hl.at fun o e => Lw.F (by walk_at "asm") |>.keep _ o e) hi (by decide) hsv ?_ (by kernel_rfl) (by intro _; kernel_rfl)
  intro D2 s2 ws2 lt2 lw2 hi2
  repeat' (walk_at "lw")
  refine l_len (by walk_at "asm") (.head _) (by rw [hi2.length, List.length_take]; omega) ?_
  intro _ _ _
  repeat' (walk_at "lw")
  refine l_range3 (by walk_at "asm") (by decide) (PyProof.noPylong_small (by decide)) ?_
  intro r s3 t3 u3 v3 hr lw3
  rw [hi2.length] at hr
  have lw4 := lw3.sub (news' := (D, listOf (List.toArray ([] : List Value)) 0) :: base) fun p hp => .tail _ hp
  have hm : (ns.take (20 : Int).toNat).length / 2 ≤ 10 := by rw [List.length_take]; omega
  refine for_range (n := (ns.take (20 : Int).toNat).length / 2) (target := forTgt pw 3) (body := forBody pw 3) hh lw4 hr ?_ (range_n _) (by intro _; kernel_rfl) (fun i l' news' => J3 D base l i l' news') ⟨[], 0, [], [], rfl, rfl, Tups.nil, (fun _ h => nomatch h), ac, fun _ _ _ _ _ h => h⟩ ?_ ?_
  · have h21 : ∀ m : Fin 21, Builtin.Range.small 0 ((m.val : Int) - 1) 2 = true := by decide +kernel
    exact h21 ⟨(ns.take (20 : Int).toNat).length, by rw [List.length_take]; omega⟩
  · rintro i t l₁ news₁ s₁ own I hI hin ⟨cs, c, kv, tups, rfl, hkv, htp, hap, ac', hk'⟩ hn hown ⟨oI, hoI⟩ lw₁
    have hlen : ns.length ≤ 63 := hz
    have hi20 : 2 * i + 1 < ns.length := by rw [List.length_take] at hin; omega
    have e : (0 : Int) + (i : Int) * 2 = ((2 * i : Nat) : Int) := by omega
    rw [e]
    have hDI : D < I := hI (D, _) (.head _)
    have hbI : ∀ b ∈ base, b.1 < I := fun b hb => hI b (.tail _ hb)
    refine wpAny_mono (turn3 (c := c) (k := ((2 * i : Nat) : Int)) (r0 := own ++ (tups ++ base)) (lw₁.sub fun p hp => ?_) ?_ ac' (hk' _ _ (by kernel_rfl) (by kernel_rfl) (by kernel_rfl) as) hl hi (by rw [htp.len, hkv]; omega) (by omega) (by omega) hz) (fun _ s₂ h₂ => wpAny_mono h₂ (fun fl s₃ h₃ => ?_) fun _ _ x => x) fun _ _ x => x
    · simp only [List.mem_cons, List.mem_append] at hp ⊢
      rcases hp with h | h | h
      · exact .inr (.inl h)
      · exact .inl h
      · exact .inr (.inr h)
    · intro p hp
      rcases List.mem_append.mp hp with h | h
      · rw [hown p h]; exact Nat.ne_of_gt hDI
      · rcases List.mem_append.mp h with h | h
        · exact Nat.ne_of_gt (hap p h).1
        · exact Nat.ne_of_lt (hlt p h)
    · obtain ⟨rfl, T, t1, t2, l', ltT, hDT, hk3, lw3'⟩ := h₃
      have f16 : 0 ≤ (ns.getD ((2 * i : Nat) : Int).toNat 0).fmod 16 ∧ (ns.getD ((2 * i : Nat) : Int).toNat 0).fmod 16 < 16 := by
        rw [Int.fmod_eq_emod_of_nonneg _ (by decide)]; omega
      have f256 := fm_lo (ns.getD (((2 * i : Nat) : Int) + 1).toNat 0)
      have ek : (ns.getD ((2 * i : Nat) : Int).toNat 0).fmod 16 = ((((ns.getD ((2 * i : Nat) : Int).toNat 0).fmod 16).toNat : Nat) : Int) := by omega
      rw [ek] at lw3'
      refine ⟨l', (D, listOf (List.toArray (cs ++ [Value.ref T])) (c + 1)) :: (((T, _) :: tups) ++ base), lw3'.sub fun p hp => ?_, fun p hp => ?_, cs ++ [Value.ref T], c + 1, kv ++ [(((ns.getD ((2 * i : Nat) : Int).toNat 0).fmod 16).toNat, (ns.getD (((2 * i : Nat) : Int) + 1).toNat 0).fmod 256)], (T, _) :: tups, rfl, by simp [hkv], htp.more (T := T) (t := t1) (u := t2) (by omega) f256.1 (by omega), ?_, hk3 _ _ (by kernel_rfl) (by kernel_rfl) (by kernel_rfl) ac', fun nm v e1 e2 e3 h => hk3 nm v e1 e2 e3 (hk' nm v e1 e2 e3 h)⟩
      · simp only [List.mem_cons, List.mem_append, List.cons_append] at hp ⊢
        rcases hp with h | h | h | h | h
        · exact .inr (.inr (.inl h))
        · exact .inl h
        · exact .inr (.inl h)
        · exact .inr (.inr (.inr (.inl h)))
        · exact .inr (.inr (.inr (.inr h)))
      · simp only [List.mem_cons, List.mem_append, List.cons_append] at hp
        rcases hp with rfl | rfl | h | h
        · exact Nat.ne_of_lt hDI
        · exact Nat.ne_of_gt (ltT (I, oI) (List.mem_append_left _ hoI))
        · exact hn p (.tail _ (List.mem_append_left _ h))
        · exact Nat.ne_of_lt (hbI p h)
      · intro p hp
        rcases List.mem_cons.mp hp with rfl | hp
        · exact ⟨hDT, fun b hb => ltT b (List.mem_append_right _ (List.mem_append_right _ hb))⟩
        · exact hap p hp
  · intro l' news' s' lw' hJ
    exact hq l' news' _ s' hm lw' hJ
end
noncomputable def asgV (p : Program) (k : Nat) : PySem.Expr := match nthS k (lawD p).body with
  | .Assign _ v _ => v
  | _ => .Name (s8 []) zpos
noncomputable def asgP (p : Program) (k : Nat) : Pos := match nthS k (lawD p).body with
  | .Assign _ _ q => q
  | _ => zpos
noncomputable def asgT (p : Program) (k : Nat) : Pos := match nthS k (lawD p).body with
  | .Assign [.Name _ q] _ _ => q
  | _ => zpos
noncomputable def nthE : Nat → List PySem.Expr → PySem.Expr
  | 0, e :: _ => e
  | n + 1, _ :: r => nthE n r
  | _, [] => .Name (s8 []) zpos
noncomputable def elP (p : Program) (k j : Nat) : Pos := match asgV p k with
  | .List l _ => (match nthE j l with | .Constant _ _ q => q | _ => zpos)
  | .Tuple l _ _ => (match nthE j l with | .Constant _ _ q => q | _ => zpos)
  | _ => zpos
noncomputable def lsP (p : Program) (k : Nat) : Pos := match asgV p k with
  | .List _ q => q
  | .Tuple _ _ q => q
  | _ => zpos
theorem e4v : asgV pw 4 = .List [.Constant (.int 0) 0 (elP pw 4 0), .Constant (.int 1) 0 (elP pw 4 1), .Constant (.int 2) 0 (elP pw 4 2), .Constant (.int 3) 0 (elP pw 4 3), .Constant (.int 4) 0 (elP pw 4 4), .Constant (.int 5) 0 (elP pw 4 5), .Constant (.int 6) 0 (elP pw 4 6), .Constant (.int 7) 0 (elP pw 4 7), .Constant (.int 8) 0 (elP pw 4 8)] (lsP pw 4) := by kernel_rfl
theorem e4 : nthS 4 (lawD pw).body = .Assign [.Name (Str.ofString "wide") (asgT pw 4)] (asgV pw 4) (asgP pw 4) := by kernel_rfl
section
variable {og o9 : OsState × Drawn} {g9 : Array GenState} {K : Frag} {n : Nat} {A : Around} {h₀ : Heap} {L f a M : Addr} {base news r6 : List (Addr × Obj)} {l : List (Str × Value)} {s : Shared} {w : World} {prog : Program} {E : Value → Shared → Prop} {q : Str} {cd : Value} {Q : Flow → Shared → Prop} {sv vs wv cs : List Value} {ns : List Int} {c cw cc : Nat} {W D : Addr}
theorem s4 (lw : Lw og h₀ L l news s.heap (s.os, s.drawn) s.gens) (hq : ∀ D ws s', (∀ p ∈ news, p.1 < D) → IntsAre ws [0, 1, 2, 3, 4, 5, 6, 7, 8] → Lw og h₀ L ((Str.ofString "wide", .ref D) :: l) ((D, listOf (List.toArray ws) 0) :: news) s'.heap (s'.os, s'.drawn) s'.gens → Q .next s') :
    wpAny (model prog w) A (exec (nthS 4 (lawD pw).body) (envOf q (lawD pw).scope L f cd)) Q E s := by
  rw [e4]
  with_reducible refine wpAny_Assign_Name ?_ (by kernel_rfl)
  rw [e4v]
  repeat' (walk_at "lw")
  refine l_newList (by walk_at "asm") (Nat.le_of_ble_eq_true rfl) ?_
  intro D s1 lt1 lw1
  repeat' (walk_at "lw")
  refine hq D _ _ lt1 ?_ (by walk_at "asm")
  repeat constructor
end
section
variable {og o9 : OsState × Drawn} {g9 : Array GenState} {K : Frag} {n : Nat} {A : Around} {h₀ : Heap} {L f a M : Addr} {base news r6 : List (Addr × Obj)} {l : List (Str × Value)} {s : Shared} {w : World} {prog : Program} {E : Value → Shared → Prop} {q : Str} {cd : Value} {Q : Flow → Shared → Prop} {sv vs wv cs : List Value} {ns : List Int} {c cw cc : Nat} {W D : Addr}
theorem s5 (lw : Lw og h₀ L l news s.heap (s.os, s.drawn) s.gens) (hq : ∀ t s', Lw og h₀ L ((Str.ofString "at", .int 512 t) :: l) news s'.heap (s'.os, s'.drawn) s'.gens → Q .next s') :
    wpAny (model prog w) A (exec (nthS 5 (lawD pw).body) (envOf q (lawD pw).scope L f cd)) Q E s := by
  refine wpAny_Assign_Name ?_ (by kernel_rfl)
  repeat' (walk_at "lw")
  exact hq _ _ (by walk_at "asm")
theorem s7 (lw : Lw og h₀ L l news s.heap (s.os, s.drawn) s.gens) (hm : (M, listOf vs.toArray c) ∈ news) (hz : vs.length ≤ 1000) (am : At l (Str.ofString "memory") (.ref M)) (hq : ∀ D s', (∀ p ∈ news, p.1 < D) → Lw og h₀ L ((Str.ofString "plain", .ref D) :: l) ((D, listOf vs.toArray 0) :: news) s'.heap (s'.os, s'.drawn) s'.gens → Q .next s') :
    wpAny (model prog w) A (exec (nthS 7 (lawD pw).body) (envOf q (lawD pw).scope L f cd)) Q E s := by
  refine wpAny_Assign_Name ?_ (by kernel_rfl)
  repeat' (walk_at "lw")
  refine l_copy (by walk_at "asm") (PySem.IsL.isList (n := c) (Lw.N (by walk_at "asm") _ hm).1) hz ?_ (by kernel_rfl) (by intro _; kernel_rfl)
  intro D s1 lt1 lw1
  repeat' (walk_at "lw")
  exact hq D _ lt1 (by walk_at "asm")
end
section
variable {og o9 : OsState × Drawn} {g9 : Array GenState} {K : Frag} {n : Nat} {A : Around} {h₀ : Heap} {L f a M : Addr} {base news r6 : List (Addr × Obj)} {l : List (Str × Value)} {s : Shared} {w : World} {prog : Program} {E : Value → Shared → Prop} {q : Str} {cd : Value} {Q : Flow → Shared → Prop} {sv vs wv cs : List Value} {ns : List Int} {c cw cc : Nat} {W D : Addr}
def J6 (M : Addr) (c : Nat) (r6 : List (Addr × Obj)) (kv : List (Nat × Int)) (lk : List (Str × Value)) (i : Nat) (l' : List (Str × Value)) (news' : List (Addr × Obj)) : Prop :=
  ∃ vs ns t, news' = (M, listOf (List.toArray vs) c) :: r6 ∧ IntsAre vs ns ∧ Octs ns ∧ CodeIn ns kv i ∧ At l' (Str.ofString "at") (.int (512 + clen (kv.take i)) t) ∧ ∀ nm v, (nm == Str.ofString "at") = false → (nm == Str.ofString "kind") = false → (nm == Str.ofString "value") = false → At lk nm v → At l' nm v
theorem s6 {kv : List (Nat × Int)} {tups : List (Addr × Obj)} {ta : Tok} (hh : A.handled = none) (lw : Lw og h₀ L l ((M, listOf vs.toArray c) :: r6) s.heap (s.os, s.drawn) s.gens) (hM : ∀ p ∈ r6, p.1 ≠ M) (hD : (D, listOf cs.toArray cc) ∈ r6) (hW : (W, listOf wv.toArray cw) ∈ r6) (hwi : IntsAre wv [0, 1, 2, 3, 4, 5, 6, 7, 8]) (htp : Tups cs kv tups) (htr : ∀ p ∈ tups, p ∈ r6) (hkv : kv.length ≤ 10)
    (am : At l (Str.ofString "memory") (.ref M)) (aw : At l (Str.ofString "wide") (.ref W)) (ac : At l (Str.ofString "codes") (.ref D)) (aa : At l (Str.ofString "at") (.int 512 ta)) (hi : IntsAre vs ns) (ho : Octs ns)
    (hq : ∀ l' news' s', Lw og h₀ L l' news' s'.heap (s'.os, s'.drawn) s'.gens → J6 M c r6 kv l kv.length l' news' → Q .next s') :
    wpAny (model prog w) A (exec (nthS 6 (lawD pw).body) (envOf q (lawD pw).scope L f cd)) Q E s := by
  refine wpAny_For ?_ (by intro _; kernel_rfl)
  refine l_loc lw ac ?_
  refine for_list (target := forTgt pw 6) (body := forBody pw 6) hh lw (.tail _ hD) (fun i l' news' => J6 M c r6 kv l i l' news') ⟨vs, ns, ta, rfl, hi, ho, (fun j k v hj => absurd hj (Nat.not_lt_zero _)), by simpa [clen] using aa, fun _ _ _ _ _ h => h⟩ ?_ ?_
  · rintro i v l₁ news₁ s₁ own I hI hv ⟨vs', ns', t', rfl, hi', ho', hc', aa', hk'⟩ hn hown ⟨oI, hoI⟩ lw₁
    have hin : i < kv.length := by
      rw [← htp.len]
      rcases Nat.lt_or_ge i cs.length with h | h
      · exact h
      · rw [List.getElem?_eq_none h] at hv; cases hv
    obtain ⟨k, x, hkx⟩ : ∃ k x, kv[i]? = some (k, x) := ⟨_, _, List.getElem?_eq_getElem hin⟩
    obtain ⟨k16, x0, x1, T, t, u, hT, hTm⟩ := htp.at_ i k x hkx
    rw [hv] at hT
    obtain rfl : v = .ref T := Option.some.inj hT
    have hMI : M < I := hI (M, _) (.head _)
    have cl := clen_lo (kv.take i)
    have hlen : (kv.take i).length ≤ 9 := by rw [List.length_take]; omega
    have k0' : 0 ≤ (k : Int) := Int.natCast_nonneg k
    have k1' : (k : Int) < 16 := by omega
    have p0' : 0 ≤ 512 + clen (kv.take i) := by omega
    have p1' : 512 + clen (kv.take i) + 1 < 768 := by omega
    obtain ⟨ho2, hc2⟩ := code_step ho' hc' hkv hkx k16 x0 x1
    have hsub : Lw og h₀ L l₁ ((M, listOf (List.toArray vs') c) :: (own ++ r6)) s₁.heap (s₁.os, s₁.drawn) s₁.gens := lw₁.sub fun p hp => by
      simp only [List.mem_cons, List.mem_append] at hp ⊢
      rcases hp with h | h | h
      · exact .inr (.inl h)
      · exact .inl h
      · exact .inr (.inr h)
    have hM' : ∀ p ∈ own ++ r6, p.1 ≠ M := by
      intro p hp
      rcases List.mem_append.mp hp with h | h
      · rcases hown p h with e | e
        · rw [e]; exact Nat.ne_of_gt hMI
        · rw [e]; exact hM _ hD
      · exact hM p h
    have am' := hk' _ _ (by kernel_rfl) (by kernel_rfl) (by kernel_rfl) am
    have aw' := hk' _ _ (by kernel_rfl) (by kernel_rfl) (by kernel_rfl) aw
    have key := turn6 (prog := prog) (w := w) (f := f) (q := q) (cd := cd) hh hsub hM' am' aw' aa' (List.mem_append_right own (htr _ hTm)) (List.mem_append_right own hW) hwi hi' ho'.1 k0' k1' p0' p1'
    with_reducible refine wpAny_mono key ?_ (fun _ _ x => x)
    intro _ s₂ h₂
    with_reducible refine wpAny_mono h₂ ?_ (fun _ _ x => x)
    intro fl s₃ h₃
    obtain ⟨rfl, ws, l', t3, hk3, aa3, lw3, hi3⟩ := h₃
    · refine ⟨l', (M, listOf (List.toArray ws) c) :: r6, lw3.sub fun p hp => ?_, fun p hp => ?_, ws, _, t3, rfl, hi3, ho2, hc2, ?_, fun nm v e1 e2 e3 h => hk3 nm v e1 e2 e3 (hk' nm v e1 e2 e3 h)⟩
      · simp only [List.mem_cons, List.mem_append] at hp ⊢
        rcases hp with h | h | h
        · exact .inr (.inl h)
        · exact .inl h
        · exact .inr (.inr h)
      · rcases List.mem_cons.mp hp with rfl | h
        · exact Nat.ne_of_lt hMI
        · exact hn p (.tail _ h)
      · rw [clen_take hkx]
        rw [← Int.add_assoc]
        exact aa3
  · intro l' news' s' lw' hJ
    rw [htp.len] at hJ
    exact hq l' news' s' lw' hJ
end
section
variable {og : OsState × Drawn} {K : Frag} {n : Nat} {A : Around} {h₀ : Heap} {L f M : Addr} {news rest : List (Addr × Obj)} {l : List (Str × Value)} {s : Shared} {w : World} {prog : Program} {E : Value → Shared → Prop} {q : Str} {cd : Value} {Q : Flow → Shared → Prop} {vs : List Value} {ns : List Int} {c : Nat}
theorem ls8 (ki : KI K) (kf : KF K) (cx : Cx K n A (envOf q (lawD pw).scope L f cd) h₀ L) (hn : n < 70) (lw : Lw og h₀ L l news s.heap (s.os, s.drawn) s.gens) (am : At l (Str.ofString "memory") (.ref M)) (hM : (M, listOf vs.toArray c) ∈ news) (hr : ∀ p ∈ rest, p ∈ news) (hi : IntsAre vs ns)
    (hq : ∀ x d (s' : Shared), (∀ p ∈ news, p.1 < d) → d < x → Ok og w x d M rest h₀ L ((Str.ofString "mpu", .ref x) :: l) ⟨0, 0, 0, 255, 48, 512, 0, ns⟩ s'.heap (s'.os, s'.drawn) s'.gens → Q .next s') :
    wpAny (model prog w) A (exec (nthS 8 (lawD pw).body) (envOf q (lawD pw).scope L f cd)) Q E s := by
  refine wpAny_Assign_Name ?_ (by kernel_rfl)
  refine wpAny_Call_ofName ?_
  refine l_globK cx.X cx.T lw ki.g_MPU ?_
  refine callWith_KW0 cx.X ki.keepC (by kernel_rfl) ?_ (by kernel_rfl)
  refine kws_cons ?_
  refine l_loc lw am ?_
  refine kws_cons ?_
  refine l_int lw ?_
  intro t s1 lw1
  refine kws_nil ?_
  refine ⟨cx.X.keeps lw1.F.keep, ?_⟩
  refine c_make ki kf cx hn lw1 ?_
  intro x d v s2 hd hx hv io
  have ok : Ok og w x d M rest h₀ L l ⟨0, 0, 0, 255, 48, 512, 0, ns⟩ s2.heap (s2.os, s2.drawn) s2.gens := by
    obtain ⟨k, dn, N⟩ := io.N
    refine ⟨io.F, k, v, dn, c, vs, fun p hp => N p ?_, hv ns, hi, io.O⟩
    have e : (ents w k v).take 16 = ents w k v := rfl
    rw [e]
    simp only [List.mem_cons] at hp ⊢
    rcases hp with h | h | h | h
    · exact .inl h
    · exact .inr (.inl h)
    · exact .inr (.inr (h ▸ hM))
    · exact .inr (.inr (hr p h))
  refine r_sto ok ?_
  intro s3 ok3
  exact hq x d s3 hd hx ok3
end
noncomputable def tgP (p : Program) (k j : Nat) : Pos := match nthS k (lawD p).body with
  | .Assign [.Tuple l _ _] _ _ => (match nthE j l with | .Name _ q => q | _ => zpos)
  | _ => zpos
noncomputable def ttP (p : Program) (k : Nat) : Pos := match nthS k (lawD p).body with
  | .Assign [.Tuple _ _ q] _ _ => q
  | _ => zpos
theorem e9 : nthS 9 (lawD pw).body = .Assign [.Tuple [.Name (Str.ofString "a") (tgP pw 9 0), .Name (Str.ofString "x") (tgP pw 9 1), .Name (Str.ofString "y") (tgP pw 9 2), .Name (Str.ofString "stack") (tgP pw 9 3), .Name (Str.ofString "place") (tgP pw 9 4)] 0 (ttP pw 9)]
    (.Tuple [.Constant (.int 0) 0 (elP pw 9 0), .Constant (.int 0) 0 (elP pw 9 1), .Constant (.int 0) 0 (elP pw 9 2), .Constant (.int 255) 0 (elP pw 9 3), .Constant (.int 512) 0 (elP pw 9 4)] 0 (lsP pw 9)) (asgP pw 9) := by kernel_rfl
theorem e10 : nthS 10 (lawD pw).body = .Assign [.Tuple [.Name (Str.ofString "carry") (tgP pw 10 0), .Name (Str.ofString "zero") (tgP pw 10 1), .Name (Str.ofString "over") (tgP pw 10 2), .Name (Str.ofString "minus") (tgP pw 10 3)] 0 (ttP pw 10)]
    (.Tuple [.Constant (.int 0) 0 (elP pw 10 0), .Constant (.int 0) 0 (elP pw 10 1), .Constant (.int 0) 0 (elP pw 10 2), .Constant (.int 0) 0 (elP pw 10 3)] 0 (lsP pw 10)) (asgP pw 10) := by kernel_rfl
section
variable {og : OsState × Drawn} {K : Frag} {n : Nat} {A : Around} {env : Env} {h₀ : Heap} {L f x d M T : Addr} {rest : List (Addr × Obj)} {l : List (Str × Value)} {S : MS} {s : Shared} {w : World} {prog : Program} {E : Value → Shared → Prop} {q : Str} {cd : Value} {pos : Pos}
theorem r_tup {elts : List PySem.Expr} {k : Nat} {items : List Value} {c : Nat} {Q : Unit → Shared → Prop} (hh : A.handled = none) (ok : Ok og w x d M rest h₀ L l S s.heap (s.os, s.drawn) s.gens) (hm : (T, ({ cls := .type "tuple", data := .seq items.toArray c } : Obj)) ∈ rest)
    (hl : (assignEach elts env).length = items.length) (hst : (assignEach elts env).findIdx? (·.1) = none)
    (h : ∀ (s' : Shared), Ok og w x d M rest h₀ L l S s'.heap (s'.os, s'.drawn) s'.gens → wpAny (model prog w) A (assignInOrder ((assignEach elts env).map (·.2)) items) Q E s') : wpAny (model prog w) A (assign (.Tuple elts k pos) env (.ref T)) Q E s := by
  obtain ⟨F, k', v, dn, c', vs, N, hv, hi, ho9⟩ := ok
  have lw : Lw og h₀ L l _ s.heap (s.os, s.drawn) s.gens := ⟨F, N, ho9⟩
  refine assign_Tuple_tuple (items := items.toArray) hh ⟨_, (N _ (.tail _ (.tail _ (.tail _ hm)))).1, rfl, c, rfl⟩ (by rw [hl]; rfl) hst fun h' he' => ?_
  have lw' := lw.extBut he'
  exact h { s with heap := h' } ⟨lw'.F, k', v, dn, c', vs, lw'.N, hv, hi, lw'.O⟩
theorem aio_cons {e : PySem.Expr} {es : List PySem.Expr} {v : Value} {vs : List Value} {Q : Unit → Shared → Prop} (h : wpAny (model prog w) A (assign e env v) (fun _ s₁ => wpAny (model prog w) A (assignInOrder ((assignEach es env).map (·.2)) vs) Q E s₁) E s)
    (he : (assignEach (e :: es) env).map (·.2) = assign e env :: (assignEach es env).map (·.2)) : wpAny (model prog w) A (assignInOrder ((assignEach (e :: es) env).map (·.2)) (v :: vs)) Q E s := by
  rw [he]
  exact assignInOrder_cons h
theorem aio_nil {vs : List Value} {Q : Unit → Shared → Prop} (h : Q () s) : wpAny (model prog w) A (assignInOrder ((assignEach [] env).map (·.2)) vs) Q E s := assignInOrder_nil h
theorem ls9 {Q : Flow → Shared → Prop} (hh : A.handled = none) (ap : Ap x d M rest) (ok : Ok og w x d M rest h₀ L l S s.heap (s.os, s.drawn) s.gens)
    (hq : ∀ t1 t2 t3 t4 t5 (s' : Shared), Ok og w x d M rest h₀ L ((Str.ofString "place", .int 512 t5) :: (Str.ofString "stack", .int 255 t4) :: (Str.ofString "y", .int 0 t3) :: (Str.ofString "x", .int 0 t2) :: (Str.ofString "a", .int 0 t1) :: l) S s'.heap (s'.os, s'.drawn) s'.gens → Q .next s') :
    wpAny (model prog w) A (exec (nthS 9 (lawD pw).body) (envOf q (lawD pw).scope L f cd)) Q E s := by
  rw [e9]
  with_reducible refine Assign_Tuple ?_ (by kernel_rfl) (by kernel_rfl)
  repeat' (walk_at "bw")
  with_reducible refine' r_tup hh ?okk ?hmm ?hl ?hst ?_
  case okk => walk_at "asm"
  case hmm => exact List.Mem.head _
  case hl => kernel_rfl
  case hst => kernel_rfl
  intro s1 ok1
  repeat' (first | with_reducible refine aio_cons ?_ (by kernel_rfl) | with_reducible refine aio_nil ?_ | walk_at "bw")
  exact hq _ _ _ _ _ _ (Ok.drop (by walk_at "asm"))
theorem ls10 {Q : Flow → Shared → Prop} (hh : A.handled = none) (ap : Ap x d M rest) (ok : Ok og w x d M rest h₀ L l S s.heap (s.os, s.drawn) s.gens)
    (hq : ∀ t1 t2 t3 t4 (s' : Shared), Ok og w x d M rest h₀ L ((Str.ofString "minus", .int 0 t4) :: (Str.ofString "over", .int 0 t3) :: (Str.ofString "zero", .int 0 t2) :: (Str.ofString "carry", .int 0 t1) :: l) S s'.heap (s'.os, s'.drawn) s'.gens → Q .next s') :
    wpAny (model prog w) A (exec (nthS 10 (lawD pw).body) (envOf q (lawD pw).scope L f cd)) Q E s := by
  rw [e10]
  with_reducible refine Assign_Tuple ?_ (by kernel_rfl) (by kernel_rfl)
  repeat' (walk_at "bw")
  with_reducible refine' r_tup hh ?okk ?hmm ?hl ?hst ?_
  case okk => walk_at "asm"
  case hmm => exact List.Mem.head _
  case hl => kernel_rfl
  case hst => kernel_rfl
  intro s1 ok1
  repeat' (first | with_reducible refine aio_cons ?_ (by kernel_rfl) | with_reducible refine aio_nil ?_ | walk_at "bw")
  exact hq _ _ _ _ _ (Ok.drop (by walk_at "asm"))
end
noncomputable def forI (p : Program) (k : Nat) : PySem.Expr := match nthS k (lawD p).body with
  | .For _ i _ _ _ => i
  | _ => .Name (s8 []) zpos
noncomputable def forP (p : Program) (k : Nat) : Pos := match nthS k (lawD p).body with
  | .For _ _ _ _ q => q
  | _ => zpos
noncomputable def nmP : PySem.Expr → Pos
  | .Name _ q => q
  | _ => zpos
theorem e11 : nthS 11 (lawD pw).body = .For (forTgt pw 11) (.Name (Str.ofString "codes") (nmP (forI pw 11))) (forBody pw 11) [] (forP pw 11) := by kernel_rfl
/-- what stands behind the main loop's turns -/
def J11 (w : World) (x d M Pl W : Addr) (cp : Nat) (r1 : List (Addr × Obj)) (kv : List (Nat × Int)) (i : Nat) (l' : List (Str × Value)) (news' : List (Addr × Obj)) : Prop :=
  ∃ k v dn c vs us S V z m, news' = (x, instObj Cc d) :: (d, dictOf (ents w k v) dn) :: (M, listOf (List.toArray vs) c) :: (Pl, listOf (List.toArray us) cp) :: r1 ∧ Vals v S M ∧ IntsAre vs S.mem ∧ IntsAre us V.pl ∧ Loc0 l' V ∧
    AtI l' (Str.ofString "zero") z ∧ AtI l' (Str.ofString "minus") m ∧ AtI l' (Str.ofString "place") S.pc ∧ At l' (Str.ofString "mpu") (.ref x) ∧ At l' (Str.ofString "plain") (.ref Pl) ∧ At l' (Str.ofString "wide") (.ref W) ∧ At l' (Str.ofString "memory") (.ref M) ∧
    Good S { V with told := none } z m ∧ S.pc = 512 + clen (kv.take i) ∧ CodeIn V.pl kv kv.length
section
variable {og : OsState × Drawn} {prog : Program} {w : World} {A : Around} {h₀ : Heap} {L f : Addr} {target : PySem.Expr} {body : List Stmt} {Q : Flow → Shared → Prop} {E : Value → Shared → Prop} {s : Shared} {l : List (Str × Value)} {news : List (Addr × Obj)} {q nm : Str} {sc : Scope} {cd : Value} {ip pos : Pos}
theorem for_stmt {ax : Addr} {vs : List Value} {c : Nat} (hh : A.handled = none) (lw : Lw og h₀ L l news s.heap (s.os, s.drawn) s.gens) (ha : At l nm (.ref ax)) (hm : (ax, listOf vs.toArray c) ∈ news)
    (J : Nat → List (Str × Value) → List (Addr × Obj) → Prop) (h0 : J 0 l news)
    (turn : ∀ i v l₁ news₁ (s₁ : Shared) own I, (∀ p ∈ news, p.1 < I) → vs[i]? = some v → J i l₁ news₁ → (∀ p ∈ news₁, p.1 ≠ I) → (∀ p ∈ own, p.1 = I ∨ p.1 = ax) → (∃ o, (I, o) ∈ own) → Lw og h₀ L l₁ (own ++ news₁) s₁.heap (s₁.os, s₁.drawn) s₁.gens →
      wpAny (model prog w) A (assign target (envOf q sc L f cd) v) (fun _ s₂ => wpAny (model prog w) A (execs body (envOf q sc L f cd)) (fun f s₃ => f = .next ∧ ∃ l₂ news₂, Lw og h₀ L l₂ (own ++ news₂) s₃.heap (s₃.os, s₃.drawn) s₃.gens ∧ (∀ p ∈ news₂, p.1 ≠ I) ∧ J (i + 1) l₂ news₂) (fun _ _ => False) s₂) (fun _ _ => False) s₁)
    (done : ∀ l' news' (s' : Shared), Lw og h₀ L l' news' s'.heap (s'.os, s'.drawn) s'.gens → J vs.length l' news' → Q .next s')
    (hs : ∀ x, foldedSetIterable (.Name nm ip) (envOf q sc L f cd) x = pure x) (hk : sc.kind = .function) (hl : (envOf q sc L f cd).kindOf nm = some .local) (hd : (nm == ("__debug__" : Str)) = false) :
    wpAny (model prog w) A (exec (.For target (.Name nm ip) body [] pos) (envOf q sc L f cd)) Q E s := by
  refine wpAny_For ?_ hs
  refine l_loc lw ha ?_ hk hl hd
  refine for_list hh lw hm J h0 (fun i v l₁ news₁ s₁ own I a1 a2 a3 a4 a5 a6 a7 => ?_) done
  refine wpAny_mono (turn i v l₁ news₁ s₁ own I a1 a2 a3 a4 a5 a6 a7) (fun _ s₂ h₂ => wpAny_mono h₂ (fun fl s₃ h₃ => ?_) fun _ _ x => x) fun _ _ x => x
  obtain ⟨rfl, h₃⟩ := h₃
  exact h₃
end
section
variable {og : OsState × Drawn} {K : Frag} {n : Nat} {A : Around} {h₀ : Heap} {L f x d M Pl W D : Addr} {r1 tups : List (Addr × Obj)} {l : List (Str × Value)} {S : MS} {V : LV} {s : Shared} {w : World} {prog : Program} {E : Value → Shared → Prop} {q : Str} {cd : Value} {Q : Flow → Shared → Prop} {us wv cs : List Value} {cp cw cc : Nat} {z m : Int} {kv : List (Nat × Int)}
theorem ls11 (hh : A.handled = none) (hu : A.units + 64 < cLine) (kf : KF K) (cx : Cx K n A (envOf q (lawD pw).scope L f cd) h₀ L) (hn : n < 50) (ap : ∀ us, Ap x d M ((Pl, listOf (List.toArray us) cp) :: r1)) (ap2 : Ap2 x d M Pl r1)
    (ok : Ok og w x d M ((Pl, listOf us.toArray cp) :: r1) h₀ L l S s.heap (s.os, s.drawn) s.gens) (hD : (D, listOf cs.toArray cc) ∈ r1) (hW : (W, listOf wv.toArray cw) ∈ r1) (hwi : IntsAre wv [0, 1, 2, 3, 4, 5, 6, 7, 8]) (htp : Tups cs kv tups) (htr : ∀ p ∈ tups, p ∈ r1) (hkv : kv.length ≤ 10)
    (ac : At l (Str.ofString "codes") (.ref D)) (lo : Loc0 l V) (az : AtI l (Str.ofString "zero") z) (am : AtI l (Str.ofString "minus") m) (app : AtI l (Str.ofString "place") S.pc) (amp : At l (Str.ofString "mpu") (.ref x)) (apl : At l (Str.ofString "plain") (.ref Pl)) (awd : At l (Str.ofString "wide") (.ref W)) (ame : At l (Str.ofString "memory") (.ref M))
    (hi : IntsAre us V.pl) (g : Good S { V with told := none } z m) (hpc : S.pc = 512) (hcode : CodeIn V.pl kv kv.length)
    (hq : ∀ l' news' (s' : Shared), Lw og h₀ L l' news' s'.heap (s'.os, s'.drawn) s'.gens → Q .next s') :
    wpAny (model prog w) A (exec (nthS 11 (lawD pw).body) (envOf q (lawD pw).scope L f cd)) Q E s := by
  rw [e11]
  have lw : ∃ news, Lw og h₀ L l news s.heap (s.os, s.drawn) s.gens ∧ J11 w x d M Pl W cp r1 kv 0 l news ∧ (D, listOf cs.toArray cc) ∈ news ∧ (∀ p ∈ r1, p ∈ news) ∧ (∃ o, (x, o) ∈ news) ∧ (∃ o, (d, o) ∈ news) ∧ (∃ o, (M, o) ∈ news) ∧ (∃ o, (Pl, o) ∈ news) := by
    obtain ⟨F, k', v, dn, c', vs, N, hv, hi2, ho9⟩ := ok
    refine ⟨_, ⟨F, N, ho9⟩, ⟨k', v, dn, c', vs, us, S, V, z, m, rfl, hv, hi2, hi, lo, az, am, app, amp, apl, awd, ame, g, ?_, hcode⟩, .tail _ (.tail _ (.tail _ (.tail _ hD))), fun p hp => .tail _ (.tail _ (.tail _ (.tail _ hp))), ⟨_, .head _⟩, ⟨_, .tail _ (.head _)⟩, ⟨_, .tail _ (.tail _ (.head _))⟩, ⟨_, .tail _ (.tail _ (.tail _ (.head _)))⟩⟩
    simpa [clen] using hpc
  obtain ⟨news, lw, hJ0, hDn, hr1n, ⟨ox, hxn⟩, ⟨od, hdn⟩, ⟨om, hMn⟩, ⟨op, hPn⟩⟩ := lw
  with_reducible refine for_stmt hh lw ac hDn (fun i l' news' => J11 w x d M Pl W cp r1 kv i l' news') hJ0 ?_ ?_ (fun _ => by kernel_rfl) (by kernel_rfl) (by kernel_rfl) (by kernel_rfl)
  · rintro i v l₁ news₁ s₁ own I hI hv ⟨k, va, dn, c, vs, us', S', V', z', m', rfl, hva, hvs, hus, lo', az', am', app', amp', apl', awd', ame', g', hpc', hcode'⟩ hne hown ⟨oI, hoI⟩ lw₁
    have hin : i < kv.length := by
      rw [← htp.len]
      rcases Nat.lt_or_ge i cs.length with h | h
      · exact h
      · rw [List.getElem?_eq_none h] at hv; cases hv
    obtain ⟨κ, v0, hkx⟩ : ∃ k x, kv[i]? = some (k, x) := ⟨_, _, List.getElem?_eq_getElem hin⟩
    obtain ⟨k16, x0, x1, T, t, u, hT, hTm⟩ := htp.at_ i κ v0 hkx
    rw [hv] at hT
    obtain rfl : v = .ref T := Option.some.inj hT
    have cl := clen_lo (kv.take i)
    have hlen : (kv.take i).length ≤ 9 := by rw [List.length_take]; omega
    have hxI := hI _ hxn
    have hdI := hI _ hdn
    have hMI := hI _ hMn
    have hPI := hI _ hPn
    dsimp only at hxI hdI hMI hPI
    have apd := fun p hp => (ap us').rd p (.tail _ hp)
    have apM := fun p hp => (ap us').rM p (.tail _ hp)
    have apn : ∀ us, Ap x d M ((Pl, listOf (List.toArray us) cp) :: (own ++ r1)) := fun us'' => by
      refine ⟨(ap us'').xd, (ap us'').Md, (ap us'').xM, fun p hp => ?_, fun p hp => ?_⟩
      · rcases List.mem_cons.mp hp with rfl | hp
        · exact (ap us'').rd _ (.head _)
        · rcases List.mem_append.mp hp with h | h
          · rcases hown p h with e | e
            · rw [e]; exact Nat.ne_of_gt hdI
            · rw [e]; exact apd _ hD
          · exact apd p h
      · rcases List.mem_cons.mp hp with rfl | hp
        · exact (ap us'').rM _ (.head _)
        · rcases List.mem_append.mp hp with h | h
          · rcases hown p h with e | e
            · rw [e]; exact Nat.ne_of_gt hMI
            · rw [e]; exact apM _ hD
          · exact apM p h
    have ap2n : Ap2 x d M Pl (own ++ r1) := by
      refine ⟨ap2.x, ap2.d, ap2.m, fun p hp => ?_⟩
      rcases List.mem_append.mp hp with h | h
      · rcases hown p h with e | e
        · rw [e]; exact Nat.ne_of_gt hPI
        · rw [e]; exact ap2.r _ hD
      · exact ap2.r p h
    have okn : Ok og w x d M ((Pl, listOf (List.toArray us') cp) :: (own ++ r1)) h₀ L l₁ S' s₁.heap (s₁.os, s₁.drawn) s₁.gens := by
      refine ⟨lw₁.F, k, va, dn, c, vs, fun p hp => lw₁.N p ?_, hva, hvs, lw₁.O⟩
      simp only [List.mem_cons, List.mem_append] at hp ⊢
      rcases hp with h | h | h | h | h | h
      · exact .inr (.inl h)
      · exact .inr (.inr (.inl h))
      · exact .inr (.inr (.inr (.inl h)))
      · exact .inr (.inr (.inr (.inr (.inl h))))
      · exact .inl h
      · exact .inr (.inr (.inr (.inr (.inr h))))
    obtain ⟨hop, hopv⟩ := hcode' i κ v0 hin hkx
    have pc0 : 0 ≤ S'.pc := by omega
    have pc1 : S'.pc + 1 < 768 := by omega
    have key := turn11 (prog := prog) (w := w) (f := f) (q := q) (cd := cd) k16 hh hu kf cx hn apn ap2n okn (List.mem_append_right own (htr _ hTm)) (List.mem_append_right own hW) hwi lo' az' am' app' amp' apl' awd' ame' hus g' pc0 pc1
      (by rw [g'.mem, hpc']; exact hop) (fun hk => by rw [g'.mem, hpc']; exact hopv hk) x0 x1
    with_reducible refine wpAny_mono key ?_ (fun _ _ x => x)
    intro _ s₂ h₂
    with_reducible refine wpAny_mono h₂ ?_ (fun _ _ x => x)
    intro fl s₃ h₃
    obtain ⟨rfl, l', ws, V2, z2, m2, ok2, hi2, lo2, az2, am2, app2, amp2, apl2, awd2, ame2, g2, hpc2, rfl⟩ := h₃
    obtain ⟨F2, k2, v2, dn2, c2, vs2, N2, hv2, his2, hO2⟩ := ok2
    refine ⟨rfl, l', (x, instObj Cc d) :: (d, dictOf (ents w k2 v2) dn2) :: (M, listOf (List.toArray vs2) c2) :: (Pl, listOf (List.toArray ws) cp) :: r1, ⟨F2, fun p hp => N2 p ?_, hO2⟩, fun p hp => ?_, k2, v2, dn2, c2, vs2, ws, _, _, z2, m2, rfl, hv2, his2, hi2, lo2, az2, am2, app2, amp2, apl2, awd2, ame2, g2, ?_, ?_⟩
    · simp only [List.mem_cons, List.mem_append] at hp ⊢
      rcases hp with h | h | h | h | h | h
      · exact .inr (.inr (.inr (.inr (.inl h))))
      · exact .inl h
      · exact .inr (.inl h)
      · exact .inr (.inr (.inl h))
      · exact .inr (.inr (.inr (.inl h)))
      · exact .inr (.inr (.inr (.inr (.inr h))))
    · simp only [List.mem_cons] at hp
      rcases hp with rfl | rfl | rfl | rfl | h
      · exact Nat.ne_of_lt hxI
      · exact Nat.ne_of_lt hdI
      · exact Nat.ne_of_lt hMI
      · exact Nat.ne_of_lt hPI
      · exact Nat.ne_of_lt (hI p (hr1n p h))
    · rw [hpc2, hpc', clen_take hkx]
      omega
    · exact code_keep (V := { V' with told := none }) k16 x0 x1 g'.s0 g'.s1 hcode'
  · intro l' news' s' lw' hJ
    exact hq l' news' s' lw'
theorem ls12 (hq : Q (.ret (.bool true)) s) : wpAny (model prog w) A (exec (nthS 12 (lawD pw).body) (envOf q (lawD pw).scope L f cd)) Q E s := by
  refine wpAny_Return_some ?_
  exact Constant_bool hq
end
section
variable {og : OsState × Drawn} {K : Frag} {n : Nat} {A : Around} {h₀ : Heap} {L f a : Addr} {s : Shared} {w : World} {prog : Program} {E : Value → Shared → Prop} {q : Str} {cd : Value} {Q : Flow → Shared → Prop} {sv : List Value} {ns : List Int}
theorem law_walk (ki : KI K) (kf : KF K) (cx : Cx K n A (envOf q (lawD pw).scope L f cd) h₀ L) (hn : n < 50) (hh : A.handled = none) (hu : A.units + 64 < cLine) (lw : Lw og h₀ L [(Str.ofString "script", .ref a)] [] s.heap (s.os, s.drawn) s.gens)
    (hl : h₀.IsList a sv.toArray) (hi : IntsAre sv ns) (hz : ns.length ≤ 63) (hq : ∀ l' news' (s' : Shared), Lw og h₀ L l' news' s'.heap (s'.os, s'.drawn) s'.gens → Q (.ret (.bool true)) s') :
    wpAny (model prog w) A (execs (lawD pw).body (envOf q (lawD pw).scope L f cd)) Q E s := by
  rw [bodyL]
  with_reducible refine wpAny_execs_cons ?_
  with_reducible refine s0 lw ?_
  intro M l0 ws o z1 hlt hi1 lw1
  with_reducible refine wpAny_execs_cons ?_
  with_reducible refine s1 hh ki cx lw1 hlt At.here hi1 octs0 (At.there (by kernel_rfl) At.here) ?_
  intro l2 ws2 ns2 z2 lw2 am2 as2 hi2 ho2
  with_reducible refine wpAny_execs_cons ?_
  with_reducible refine s2 lw2 ?_
  intro D z3 hD lw3
  with_reducible refine wpAny_execs_cons ?_
  with_reducible refine s3 hh ki cx lw3 hD At.here (At.there (by kernel_rfl) as2) hl hi hz ?_
  intro l4 news4 m z4 hm lw4 hJ4
  obtain ⟨cs, c, kv, tups, rfl, hkv, htp, hap, ac4, hk4⟩ := hJ4
  with_reducible refine wpAny_execs_cons ?_
  with_reducible refine s4 lw4 ?_
  intro W wv z5 hW hwi lw5
  with_reducible refine wpAny_execs_cons ?_
  with_reducible refine s5 lw5 ?_
  intro ta z6 lw6
  have hlD : ∀ p ∈ [(M, listOf (List.toArray ws2) 0), (l0, o)], p.1 < D := hD
  have hMD : M < D := hlD (M, _) (.head _)
  have hDW : D < W := hW (D, _) (.head _)
  have am6 : At ((Str.ofString "at", .int 512 ta) :: (Str.ofString "wide", .ref W) :: l4) (Str.ofString "memory") (.ref M) := At.there (by kernel_rfl) (At.there (by kernel_rfl) (hk4 _ _ (by kernel_rfl) (by kernel_rfl) (by kernel_rfl) (At.there (by kernel_rfl) am2)))
  have hr6M : ∀ p ∈ (W, listOf (List.toArray wv) 0) :: (D, listOf (List.toArray cs) c) :: (tups ++ [(l0, o)]), p.1 ≠ M := by
    intro p hp
    rcases List.mem_cons.mp hp with rfl | hp
    · exact Nat.ne_of_gt (Nat.lt_trans hMD hDW)
    · rcases List.mem_cons.mp hp with rfl | hp
      · exact Nat.ne_of_gt hMD
      · rcases List.mem_append.mp hp with h | h
        · exact Nat.ne_of_gt ((hap p h).2 (M, _) (.head _))
        · rw [List.mem_singleton.mp h]
          exact Nat.ne_of_lt hlt
  have lw6' := lw6.sub (news' := (M, listOf (List.toArray ws2) 0) :: (W, listOf (List.toArray wv) 0) :: (D, listOf (List.toArray cs) c) :: (tups ++ [(l0, o)])) fun p hp => by
    simp only [List.mem_cons, List.mem_append, List.not_mem_nil, or_false] at hp ⊢
    rcases hp with h | h | h | h | h
    · exact .inr (.inr (.inr (.inl h)))
    · exact .inl h
    · exact .inr (.inl h)
    · exact .inr (.inr (.inl h))
    · exact .inr (.inr (.inr (.inr h)))
  have mD : (D, listOf (List.toArray cs) c) ∈ (W, listOf (List.toArray wv) 0) :: (D, listOf (List.toArray cs) c) :: (tups ++ [(l0, o)]) := .tail _ (.head _)
  have mW : (W, listOf (List.toArray wv) 0) ∈ (W, listOf (List.toArray wv) 0) :: (D, listOf (List.toArray cs) c) :: (tups ++ [(l0, o)]) := .head _
  have mT : ∀ p ∈ tups, p ∈ (W, listOf (List.toArray wv) 0) :: (D, listOf (List.toArray cs) c) :: (tups ++ [(l0, o)]) := fun p hp => .tail _ (.tail _ (List.mem_append_left _ hp))
  have hkv10 : kv.length ≤ 10 := by omega
  with_reducible refine wpAny_execs_cons ?_
  with_reducible refine s6 hh lw6' hr6M mD mW hwi htp mT hkv10 am6 (At.there (by kernel_rfl) At.here) (At.there (by kernel_rfl) (At.there (by kernel_rfl) ac4)) At.here hi2 ho2 ?_
  intro l7 news7 z7 lw7 hJ7
  obtain ⟨vs7, ns7, t7, rfl, hi7, ho7, hc7, aa7, hk7⟩ := hJ7
  have am7 := hk7 _ _ (by kernel_rfl) (by kernel_rfl) (by kernel_rfl) am6
  have aw7 := hk7 _ _ (by kernel_rfl) (by kernel_rfl) (by kernel_rfl) (At.there (n := Str.ofString "wide") (by kernel_rfl) At.here)
  have ac7 := hk7 _ _ (by kernel_rfl) (by kernel_rfl) (by kernel_rfl) (At.there (by kernel_rfl) (At.there (by kernel_rfl) ac4))
  with_reducible refine wpAny_execs_cons ?_
  have hv1000 : vs7.length ≤ 1000 := by rw [hi7.length, ho7.1]; omega
  have mM7 : (M, listOf (List.toArray vs7) 0) ∈ (M, listOf (List.toArray vs7) 0) :: (W, listOf (List.toArray wv) 0) :: (D, listOf (List.toArray cs) c) :: (tups ++ [(l0, o)]) := .head _
  with_reducible refine s7 lw7 mM7 hv1000 am7 ?_
  intro Pl z8 hPl lw8
  have hMP : M < Pl := hPl (M, _) (.head _)
  with_reducible refine wpAny_execs_cons ?_
  have mM8 : (M, listOf (List.toArray vs7) 0) ∈ (Pl, listOf (List.toArray vs7) 0) :: (M, listOf (List.toArray vs7) 0) :: (W, listOf (List.toArray wv) 0) :: (D, listOf (List.toArray cs) c) :: (tups ++ [(l0, o)]) := .tail _ (.head _)
  with_reducible refine ls8 (rest := (Pl, listOf (List.toArray vs7) 0) :: (W, listOf (List.toArray wv) 0) :: (D, listOf (List.toArray cs) c) :: (tups ++ [(l0, o)])) ki kf cx (by omega) lw8 (At.there (by kernel_rfl) am7) mM8 (fun p hp => ?_) hi7 ?_
  · simp only [List.mem_cons] at hp ⊢
    rcases hp with h | h
    · exact .inl h
    · exact .inr (.inr h)
  intro x d z9 hd hx ok9
  have hPd : Pl < d := hd (Pl, _) (.head _)
  have hMd : M < d := hd (M, _) (.tail _ (.head _))
  have ap : ∀ us : List Value, Ap x d M ((Pl, listOf (List.toArray us) 0) :: (W, listOf (List.toArray wv) 0) :: (D, listOf (List.toArray cs) c) :: (tups ++ [(l0, o)])) := fun us => by
    refine ⟨Nat.ne_of_gt hx, Nat.ne_of_lt hMd, Nat.ne_of_gt (Nat.lt_trans hMd hx), fun p hp => ?_, fun p hp => ?_⟩
    · rcases List.mem_cons.mp hp with rfl | hp
      · exact Nat.ne_of_lt hPd
      · exact Nat.ne_of_lt (hd p (.tail _ (.tail _ hp)))
    · rcases List.mem_cons.mp hp with rfl | hp
      · exact Nat.ne_of_gt hMP
      · exact hr6M p hp
  have ap2 : Ap2 x d M Pl ((W, listOf (List.toArray wv) 0) :: (D, listOf (List.toArray cs) c) :: (tups ++ [(l0, o)])) :=
    ⟨Nat.ne_of_gt (Nat.lt_trans hPd hx), Nat.ne_of_gt hPd, Nat.ne_of_lt hMP, fun p hp => Nat.ne_of_lt (hPl p (.tail _ hp))⟩
  with_reducible refine wpAny_execs_cons ?_
  with_reducible refine ls9 hh (ap _) ok9 ?_
  intro t1 t2 t3 t4 t5 z10 ok10
  with_reducible refine wpAny_execs_cons ?_
  with_reducible refine ls10 hh (ap _) ok10 ?_
  intro t6 t7 t8 t9 z11 ok11
  have g : Good ⟨0, 0, 0, 255, 48, 512, 0, ns7⟩ ⟨0, 0, 0, 255, 0, 0, ns7, none⟩ 0 0 :=
    ⟨rfl, rfl, rfl, rfl, rfl, (show (48 : Int) = pf 0 0 0 0 by decide), .inl rfl, .inl rfl, .inl rfl, .inl rfl, (show (0 : Int) ≤ 0 by decide), (show (0 : Int) ≤ 255 by decide), (show (0 : Int) ≤ 255 by decide), (show (255 : Int) ≤ 255 by decide), ho7.1, ho7.2⟩
  have up : ∀ {nm : Str} {v : Value}, (nm == Str.ofString "minus") = false → (nm == Str.ofString "over") = false → (nm == Str.ofString "zero") = false → (nm == Str.ofString "carry") = false → (nm == Str.ofString "place") = false → (nm == Str.ofString "stack") = false → (nm == Str.ofString "y") = false → (nm == Str.ofString "x") = false → (nm == Str.ofString "a") = false → (nm == Str.ofString "mpu") = false → (nm == Str.ofString "plain") = false → At l7 nm v →
      At ((Str.ofString "minus", .int 0 t9) :: (Str.ofString "over", .int 0 t8) :: (Str.ofString "zero", .int 0 t7) :: (Str.ofString "carry", .int 0 t6) :: (Str.ofString "place", .int 512 t5) :: (Str.ofString "stack", .int 255 t4) :: (Str.ofString "y", .int 0 t3) :: (Str.ofString "x", .int 0 t2) :: (Str.ofString "a", .int 0 t1) :: (Str.ofString "mpu", .ref x) :: (Str.ofString "plain", .ref Pl) :: l7) nm v :=
    fun e1 e2 e3 e4 e5 e6 e7 e8 e9 e10 e11 h => At.there e1 (At.there e2 (At.there e3 (At.there e4 (At.there e5 (At.there e6 (At.there e7 (At.there e8 (At.there e9 (At.there e10 (At.there e11 h))))))))))
  with_reducible refine wpAny_execs_cons ?_
  with_reducible refine ls11 (V := ⟨0, 0, 0, 255, 0, 0, ns7, none⟩) (z := 0) (m := 0) hh hu kf cx hn ap ap2 ok11 mD mW hwi htp mT hkv10 (up (by kernel_rfl) (by kernel_rfl) (by kernel_rfl) (by kernel_rfl) (by kernel_rfl) (by kernel_rfl) (by kernel_rfl) (by kernel_rfl) (by kernel_rfl) (by kernel_rfl) (by kernel_rfl) ac7) ⟨⟨t1, by walk_at "at"⟩, ⟨t2, by walk_at "at"⟩, ⟨t3, by walk_at "at"⟩, ⟨t4, by walk_at "at"⟩, ⟨t6, by walk_at "at"⟩, ⟨t8, by walk_at "at"⟩⟩ ⟨t7, by walk_at "at"⟩ ⟨t9, by walk_at "at"⟩ ⟨t5, by walk_at "at"⟩ (by walk_at "at") (by walk_at "at") (up (by kernel_rfl) (by kernel_rfl) (by kernel_rfl) (by kernel_rfl) (by kernel_rfl) (by kernel_rfl) (by kernel_rfl) (by kernel_rfl) (by kernel_rfl) (by kernel_rfl) (by kernel_rfl) aw7) (up (by kernel_rfl) (by kernel_rfl) (by kernel_rfl) (by kernel_rfl) (by kernel_rfl) (by kernel_rfl) (by kernel_rfl) (by kernel_rfl) (by kernel_rfl) (by kernel_rfl) (by kernel_rfl) am7) hi7 g rfl hc7 ?_
  intro l12 news12 z12 lw12
  with_reducible refine wpAny_execs_cons ?_
  with_reducible refine ls12 ?_
  exact hq l12 news12 z12 lw12
end
end
end
section
theorem walk0 : WalkO (qv PySem.Challenge.pw_ln0045_01) loose (fun _ _ => True) Hk.says PySem.Challenge.rw_ln0045_01.row.toRowW (lawD PySem.Challenge.pw_ln0045_01) [] fun f vs => PySem.call f vs := by
  intro w s₀ s₁ mg mb G Y fa o pm cd doc dV kV ho hd hcd hD hmg hg args vals as hpre hlay hrd hwl hlo
  have KX : (Kx w.params).In s₁.heap := Y
  refine Ground.open G ?_
  intro T B D TE TW
  obtain ⟨_, _, M⟩ := bmod_of_top T
  have TA := at_of_top T
  clear hmg
  wrow_args hpre hlay hrd hwl hlo
  first | refine enter_call ?_ | refine enter_callW ?_ | w_how
  w_top on
  try refine codeAny_mono ?_ (fun _ _ g => GoodW.toG g)
  have K0 := below_caller (Top.heap T)
  w_call any ho hd hcd hD T F
  clear hd TA
  k_drop
  rename_i ns hs q1 q2 q3 q4 as1 as2 a sv as3 hL ra w1 r0 hI hr hcond hc2 h1 N0
  have hz : ns.length ≤ 63 := by omega
  refine law_walk (og := (s₁.os, s₁.drawn)) (n := 0) (kix w.params) (kfx w.params) ⟨⟨_, _, _, below_caller s₁.heap, Around.frames_deeper rfl⟩, rfl, by kernel_rfl, KX, ⟨_, _, _, _, _, T⟩, by show 1 + 300 + 1 ≤ 0 + 400; omega⟩ (by omega) rfl (by show 4 + 3 + 64 < 9900; omega) ⟨F, N0, rfl, hg⟩ hL hI hz (fun l' news' s' lw' => ?_)
  refine goodW_bool lw'.F lw'.O.2 (raisesW_false ?_) ?_ (congrArg Prod.fst lw'.O.1)
  · wrow_none_raised
  · wrow_post
end
end Mine
theorem PySem.Challenge.cw_ln0045_01_holds : PySem.Challenge.rw_ln0045_01.Holds := by
  exact holds_law Mine.said0 fun said => Mine.hd said Mine.walk0 (by w_witness2)
