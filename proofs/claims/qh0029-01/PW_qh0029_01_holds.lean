import PyProof.Rows.All
import Wide.All
import OpenK.AllK
import Wide.FinOn
import PyProof.MakeMany
import PySem.Challenge.RW_qh0029_01
set_option Elab.async false
set_option maxRecDepth 1000000
set_option maxHeartbeats 600000
set_option autoImplicit false
set_option linter.all false
set_option genSizeOf false
set_option genInjectivity false
set_option backward.match.sparseCases false
set_option tactic.hygienic false
open PySem PySem.W PyProof.Rows
namespace Mine
def aa{n m k:Nat}:n<=m->m<=k->n<=k:=Nat.le_trans
def ae{p:Prop}[Decidable p]:decide p=true->p:=of_decide_eq_true
def af{p:Prop}[Decidable p]:p->decide p=true:=decide_eq_true
def ai{n m k:Nat}:n<m->m<=k->n<k:=Nat.lt_of_lt_of_le
def av(n k:Nat):n<=n+k:=Nat.le_add_right n k
def ah(n:Nat):n<=n:=Nat.le_refl n
def az{a b:Nat}:a<b->a≠b:=Nat.ne_of_lt
def aD{a b:Nat}:b<=a->¬a<b:=Nat.not_lt.mpr
def dR:type_of%@Option.map_eq_some_iff:= @Option.map_eq_some_iff
def sT:type_of%@isSubtype_type:= @isSubtype_type
def b6:type_of%@Heap.lt_size:= @Heap.lt_size
def aF:type_of%@congrArg:= @congrArg
def aN:type_of%@Option.some.inj:= @Option.some.inj
def fz:type_of%@Nat.lt_trans:= @Nat.lt_trans
def w4:type_of%@Nat.le_antisymm:= @Nat.le_antisymm
def bO:type_of%@Nat.le_of_eq:= @Nat.le_of_eq
def Bc:type_of%@Nat.add_lt_add_right:= @Nat.add_lt_add_right
def mY:type_of%@Nat.add_le_add_left:= @Nat.add_le_add_left
def qT:type_of%@Array.getElem?_eq_getElem:= @Array.getElem?_eq_getElem
def ar:type_of%@if_pos:= @if_pos
def gK:type_of%@Nat.succ_le_succ:= @Nat.succ_le_succ
def lF:type_of%@Nat.lt_or_eq_of_le:= @Nat.lt_or_eq_of_le
def iG:type_of%@Nat.le_of_lt_succ:= @Nat.le_of_lt_succ
def au:type_of%@if_neg:= @if_neg
def bo:type_of%@Nat.le_of_lt:= @Nat.le_of_lt
def cI:type_of%@Nat.zero_le:= @Nat.zero_le
def jW:type_of%@Nat.not_lt_zero:= @Nat.not_lt_zero
def fB:type_of%@Nat.not_le:= @Nat.not_le
def fk:type_of%@List.length_drop:= @List.length_drop
def oG:type_of%@Nat.lt_of_le_of_ne:= @Nat.lt_of_le_of_ne
def bt:type_of%@Nat.lt_of_le_of_lt:= @Nat.lt_of_le_of_lt
def qU:type_of%@Nat.lt_add_of_pos_right:= @Nat.lt_add_of_pos_right
def aT:type_of%@List.mem_cons:= @List.mem_cons
def f9:type_of%@beq_self_eq_true:= @beq_self_eq_true
def dX:type_of%@Prod.mk.inj:= @Prod.mk.inj
def bV:type_of%@List.mem_map:= @List.mem_map
def dY:type_of%@List.mem_range:= @List.mem_range
def oH:type_of%@Int.ofNat_lt:= @Int.ofNat_lt
def a7:type_of%@List.length_map:= @List.length_map
def eB:type_of%@List.length_range:= @List.length_range
def bX:type_of%@List.mem_singleton:= @List.mem_singleton
def bK:type_of%@List.mem_append:= @List.mem_append
def ag:type_of%@wpAny_bind:= @wpAny_bind
def sU:type_of%@wpAny_askSetting:= @wpAny_askSetting
def ax:type_of%@wpAny_pure:= @wpAny_pure
def ck:type_of%@List.not_mem_nil:= @List.not_mem_nil
def oI:type_of%@Array.length_toList:= @Array.length_toList
def bH:type_of%@List.length_append:= @List.length_append
def lG:type_of%@wpAny_call_entry:= @wpAny_call_entry
def bB:type_of%@wpAny_holding:= @wpAny_holding
def aW:type_of%@wpAny_mono:= @wpAny_mono
def nr:type_of%@List.mem_of_getElem?:= @List.mem_of_getElem?
def sV:type_of%@Value.ref.inj:= @Value.ref.inj
def bR:type_of%@Nat.le_succ:= @Nat.le_succ
def sW:type_of%@List.mem_append_right:= @List.mem_append_right
def fC:type_of%@Nat.add_assoc:= @Nat.add_assoc
def eO:type_of%@Nat.add_comm:= @Nat.add_comm
def iH:type_of%@Nat.mul_le_mul_left:= @Nat.mul_le_mul_left
def hV:type_of%@Nat.le_add_left:= @Nat.le_add_left
def cZ:type_of%@beq_iff_eq:= @beq_iff_eq
def iI:type_of%@Nat.lt_irrefl:= @Nat.lt_irrefl
def bN:type_of%@Heap.get?_push_of_some:= @Heap.get?_push_of_some
def b9:type_of%@Heap.size_push:= @Heap.size_push
def bS:type_of%@Heap.get?_push_size:= @Heap.get?_push_size
def bz:type_of%@Nat.lt_succ_self:= @Nat.lt_succ_self
def vV:type_of%@Option.bind_eq_some_iff:= @Option.bind_eq_some_iff
def cJ:type_of%@decide_eq_false:= @decide_eq_false
def cf:type_of%@List.size_toArray:= @List.size_toArray
def gb:type_of%@Int.ofNat_le:= @Int.ofNat_le
def iJ:type_of%@Bool.false_ne_true:= @Bool.false_ne_true
def lH:type_of%@beq_eq_false_iff_ne:= @beq_eq_false_iff_ne
def fm:type_of%@List.lookup_cons:= @List.lookup_cons
def qV:type_of%@List.drop_eq_getElem_cons:= @List.drop_eq_getElem_cons
def bc:type_of%@eq_of_beq:= @eq_of_beq
def fo:type_of%@List.map_map:= @List.map_map
def vW:type_of%@List.map_congr_left:= @List.map_congr_left
def oJ:type_of%@Nat.mod_eq_of_lt:= @Nat.mod_eq_of_lt
def fD:type_of%@Nat.add_right_comm:= @Nat.add_right_comm
def fE:type_of%@List.all_eq_true:= @List.all_eq_true
def cP:type_of%@wpAny_standAt:= @wpAny_standAt
def dN:type_of%@Int.natCast_nonneg:= @Int.natCast_nonneg
def hY:type_of%@List.getElem?_toArray:= @List.getElem?_toArray
def jX:type_of%@List.getD_eq_getElem?_getD:= @List.getD_eq_getElem?_getD
def gL:type_of%@List.getElem?_map:= @List.getElem?_map
def nu:type_of%@List.reverse_cons:= @List.reverse_cons
def oK:type_of%@Nat.add_sub_of_le:= @Nat.add_sub_of_le
def iK:type_of%@Nat.sub_le:= @Nat.sub_le
def qW:type_of%@List.replicate_succ:= @List.replicate_succ
def jY:type_of%@call_meets:= @call_meets
def dw:type_of%@List.append_nil:= @List.append_nil
def qX:type_of%@Bool.and_eq_true:= @Bool.and_eq_true
def jZ:type_of%@Heap.get?_update_other:= @Heap.get?_update_other
def vX:type_of%@Heap.size_after_update:= @Heap.size_after_update
def yX:type_of%@Array.getElem?_eq_some_iff:= @Array.getElem?_eq_some_iff
def fF:type_of%@Nat.lt_succ_of_lt:= @Nat.lt_succ_of_lt
def ny:type_of%@Nat.succ_ne_self:= @Nat.succ_ne_self
def ct:type_of%@dif_neg:= @dif_neg
def qY:type_of%@Option.isNone_iff_eq_none:= @Option.isNone_iff_eq_none
def j3:type_of%@wpAny_newObj_type:= @wpAny_newObj_type
def gM:type_of%@List.mem_cons_self:= @List.mem_cons_self
def vY:type_of%@List.length_eq_zero_iff:= @List.length_eq_zero_iff
def ji:type_of%@Nat.succ_pos:= @Nat.succ_pos
def gN:type_of%@List.getElem?_eq_getElem:= @List.getElem?_eq_getElem
def hZ:type_of%@List.append_assoc:= @List.append_assoc
def fG:type_of%@List.map_cons:= @List.map_cons
def fq:type_of%@wpAny_of_eq:= @wpAny_of_eq
def jk:type_of%@Nat.le_succ_of_le:= @Nat.le_succ_of_le
def lI:type_of%@Nat.succ.inj:= @Nat.succ.inj
def qc:type_of%@Bool.not_eq_true:= @Bool.not_eq_true
def kI:type_of%@List.mem_cons_of_mem:= @List.mem_cons_of_mem
def fH:type_of%@List.mem_append_left:= @List.mem_append_left
def lJ:type_of%@Nat.add_lt_add_left:= @Nat.add_lt_add_left
def iL:type_of%@List.forIn_cons:= @List.forIn_cons
def qd:type_of%@Option.isSome_iff_exists:= @Option.isSome_iff_exists
def gR:type_of%@List.nodup_cons:= @List.nodup_cons
def jE:type_of%@wpAny_assign_Name:= @wpAny_assign_Name
def lK:type_of%@Array.size_push:= @Array.size_push
def sX:type_of%@List.getElem?_eq_none:= @List.getElem?_eq_none
def lL:type_of%@Meets.of_wp:= @Meets.of_wp
def dS:type_of%@Nat.add_le_add:= @Nat.add_le_add
def gS:type_of%@List.filter_cons:= @List.filter_cons
def kJ:type_of%@wpAny_execs_nil:= @wpAny_execs_nil
def gT:type_of%@wpAny_execs_cons:= @wpAny_execs_cons
def dy:type_of%@Nat.zero_add:= @Nat.zero_add
def nK:type_of%@List.length_reverse:= @List.length_reverse
def sY:type_of%@Classical.byContradiction:= @Classical.byContradiction
def fJ:type_of%@wpAny_field:= @wpAny_field
def jF:type_of%@List.cons.inj:= @List.cons.inj
def lM:type_of%@List.take_of_length_le:= @List.take_of_length_le
def jG:type_of%@List.drop_drop:= @List.drop_drop
def eG:type_of%@List.map_append:= @List.map_append
def qe:type_of%@List.mem_reverse:= @List.mem_reverse
def iM:type_of%@List.nil_append:= @List.nil_append
def eH:type_of%@Nat.add_le_add_right:= @Nat.add_le_add_right
def sZ:type_of%@List.forall_mem_cons:= @List.forall_mem_cons
def iN:type_of%@beq_false_of_ne:= @beq_false_of_ne
def lN:type_of%@List.count_eq_zero:= @List.count_eq_zero
def jH:type_of%@List.filter_append:= @List.filter_append
def kK:type_of%@List.mem_filter:= @List.mem_filter
def qf:type_of%@List.length_filter_le:= @List.length_filter_le
def nL:type_of%@List.count_pos_iff:= @List.count_pos_iff
def kM:type_of%@Bool.eq_false_iff:= @Bool.eq_false_iff
def s6:type_of%@List.length_replicate:= @List.length_replicate
noncomputable def Kf(s:PySem.Stmt):Arguments:=match s with
 | .FunctionDef _ p _ _ _ _ _ _ _ _=>p|_=>default
noncomputable def vZ(s:PySem.Stmt):List PySem.Stmt:=match s with
 | .FunctionDef _ _ b _ _ _ _ _ _ _=>b| .ClassDef _ _ _ b _ _ _ _ _ _ _=>b
 |_=>[]
noncomputable def lP(s:PySem.Stmt):Scope:=match s with
 | .FunctionDef _ _ _ _ _ _ s _ _ _=>s|_=>default
noncomputable def Gd:Program:=PySem.Challenge.rw_qh0029_01.row.toRowW.prog
noncomputable def tS(i:Nat):PySem.Stmt:=Gd.main.body.getD i (.Pass ⟨0,0,0,0⟩)
noncomputable def cS(i j:Nat):PySem.Stmt:=(vZ (tS i)).getD j (.Pass ⟨0,0,0,0⟩)
noncomputable def tO(l:List Value):Obj:=⟨.type "tuple",none,.seq l.toArray 0,#[]⟩
noncomputable def dO(n:Nat)(l:List DictEntry):Obj:=⟨.type "dict",none,.dict l.toArray n,#[]⟩
noncomputable def eP(P:Params)(k:Str)(t:Nat)(v:Value):DictEntry:=⟨PyData.keyHash P k,.str k t,v⟩
noncomputable def cO(n q:Str)(t l a p k f A:Nat)(b:Bool)(T:Nat):Obj:=⟨.type "code",none,.fields #[.str n t,.str q (t+1),.str "/claim/cut.py" (t+2),.int l 0,.int a 0,.int p 0,.int k 0,.int f 0,.ref A,.bool true,.int 181 0,.ref (A+1),.none,if b then .ref (A+2)else .none,if b then .ref (A+3)else .none,.ref (if b then A+4 else A+2),.int T 0,.int l 0,.str "/claim/cut.py" (T+1)],#[]⟩
noncomputable def fO(s:PySem.Stmt)(n q:Str)(d k:Value)(m:Str)(t c:Nat):Obj:=⟨.type "function",none,.func ⟨n,q,Kf s,.stmts (vZ s),lP s,3,[],d,k,.none,.str m t,none,.ref c,.none,0⟩,#[]⟩
noncomputable def Qe(n:Str)(h:Bool)(L:List Str)(b x:List Value)(ns:Nat)(s:Array (Option Value)):Obj:=⟨.type "type",none,.cls ⟨n,b,x,ns,n,h,L,[],false,none,false⟩,s⟩
noncomputable def hp(P:Params):Frag:=[(2,⟨.none,none,.dict #[] 0,#[]⟩),(3,dO 38 [eP P "__name__" 165 (.str "law_qh0029_01" 549),eP P "__doc__" 166 (.none),eP P "__package__" 167 (.none),eP P "__loader__" 168 (.builtin "__main__.__loader__#opaque"),eP P "__spec__" 169 (.none),eP P "__annotations__" 170 (.ref 6),eP P "__builtins__" 171 (.ref 4),eP P "__file__" 173 (.str "/claim/cut.py" 172),eP P "__cached__" 174 (.none),eP P "_wall" 193 (.ref 21),eP P "_netrclex" 253 (.ref 59),eP P "bytes_types" 256 (.ref 64),eP P "_bytes_from_decode_data" 263 (.ref 71),eP P "Error" 283 (.ref 81),eP P "_ascii_buffer" 291 (.ref 91),eP P "_buffer" 299 (.ref 98),eP P "_truth" 307 (.ref 105),eP P "_B64" 309 (.bytes #[65,66,67,68,69,70,71,72,73,74,75,76,77,78,79,80,81,82,83,84,85,86,87,88,89,90,97,98,99,100,101,102,103,104,105,106,107,108,109,110,111,112,113,114,115,116,117,118,119,120,121,122,48,49,50,51,52,53,54,55,56,57,43,47] 308),eP P "_b64_value" 316 (.ref 112),eP P "a2b_base64" 332 (.ref 120),eP P "b2a_base64" 346 (.ref 128),eP P "b64encode" 357 (.ref 136),eP P "b64decode" 366 (.ref 144),eP P "_NODE_OUT" 371 (.int (-1) 370),eP P "_NODE_DONE" 374 (.int (-2) 373),eP P "_NodeInfo" 411 (.ref 163),eP P "CycleError" 429 (.ref 178),eP P "TopologicalSorter" 548 (.ref 260),eP P "_law_lexer" 561 (.ref 271),eP P "_law_octets" 572 (.ref 278),eP P "_law_put" 580 (.ref 285),eP P "_law_due" 586 (.ref 290),eP P "_law_read" 597 (.ref 297),eP P "_law_handed" 603 (.ref 302),eP P "_law_stands" 609 (.ref 307),eP P "_law_walk" 620 (.ref 314),eP P "_law_told" 626 (.ref 319),eP P "law" 632 (.ref 324)]),(15,tO []),(17,tO [.str "k" 190]),(18,tO []),(20,cO "_wall" "_wall" 187 1 1 0 0 3 15 true 191),(21,fO (tS 0) "_wall" "_wall" (.none) (.none) "__main__" 164 20),(29,tO []),(31,tO [.str "self" 211,.str "fp" 212]),(32,tO []),(34,cO "__init__" "_netrclex.__init__" 208 7 2 0 0 3 29 true 213),(35,fO (cS 2 0) "__init__" "_netrclex.__init__" (.none) (.none) "cpy313.netrc" 194 34),(36,tO []),(38,tO [.str "self" 219,.str "ch" 220]),(39,tO []),(41,cO "_read_char" "_netrclex._read_char" 216 13 1 0 0 3 36 true 221),(42,fO (cS 2 1) "_read_char" "_netrclex._read_char" (.none) (.none) "cpy313.netrc" 194 41),(43,tO []),(45,tO [.str "self" 227,.str "token" 228,.str "fiter" 229,.str "ch" 230]),(46,tO []),(48,cO "get_token" "_netrclex.get_token" 224 19 1 0 0 3 43 true 231),(49,fO (cS 2 2) "get_token" "_netrclex.get_token" (.none) (.none) "cpy313.netrc" 194 48),(50,tO []),(52,tO [.str "self" 237,.str "token" 238]),(53,tO []),(55,cO "push_token" "_netrclex.push_token" 234 46 2 0 0 3 50 true 239),(56,fO (cS 2 3) "push_token" "_netrclex.push_token" (.none) (.none) "cpy313.netrc" 194 55),(57,tO [.str "instream" 242,.str "lineno" 243,.str "pushback" 244,.str "whitespace" 245]),(58,dO 4 [eP P "__module__" 203 (.str "cpy313.netrc" 194),eP P "__firstlineno__" 207 (.int 5 206),eP P "__init__" 215 (.ref 35),eP P "_read_char" 223 (.ref 42),eP P "get_token" 233 (.ref 49),eP P "push_token" 241 (.ref 56),eP P "__static_attributes__" 246 (.ref 57),eP P "__dict__" 248 (.ref 60),eP P "__weakref__" 250 (.ref 61),eP P "__doc__" 251 (.none)]),(59,Qe "_netrclex" true [] [.type "object"] [.ref 59,.type "object"] 58 #[none,none,some (.str "_netrclex" 196),some (.str "_netrclex" 204),some (.builtin "object.__new__"),some (.bool true)]),(60,⟨.type "getset_descriptor",none,.fields #[.str "__dict__" 247,.ref 59,.builtin "function.__dict__",.builtin "function.__dict__#set"],#[]⟩),(61,⟨.type "getset_descriptor",none,.fields #[.str "__weakref__" 249,.ref 59,.builtin "ExceptionGroup.__weakref__",.none],#[]⟩),(64,tO [.type "bytes",.type "bytearray"]),(65,tO []),(67,tO [.str "s" 260]),(68,tO []),(70,cO "_bytes_from_decode_data" "_bytes_from_decode_data" 257 50 1 0 0 3 65 true 261),(71,fO (tS 5) "_bytes_from_decode_data" "_bytes_from_decode_data" (.none) (.none) "cpy313.base64" 254 70),(72,tO [.type "ValueError"]),(79,tO []),(80,dO 3 [eP P "__module__" 273 (.str "binascii" 264),eP P "__firstlineno__" 277 (.int 63 276),eP P "__static_attributes__" 278 (.ref 79),eP P "__weakref__" 280 (.ref 82),eP P "__doc__" 281 (.none)]),(81,Qe "Error" true [] [.type "ValueError"] [.ref 81,.type "ValueError",.type "Exception",.type "BaseException",.type "object"] 80 #[some (.ref 72),none,some (.str "Error" 266),some (.str "Error" 274),some (.builtin "ValueError.__new__"),some (.bool true)]),(82,⟨.type "getset_descriptor",none,.fields #[.str "__weakref__" 279,.ref 81,.builtin "ExceptionGroup.__weakref__",.none],#[]⟩),(85,tO []),(87,tO [.str "data" 287,.str "t" 288]),(88,tO []),(90,cO "_ascii_buffer" "_ascii_buffer" 284 65 1 0 0 3 85 true 289),(91,fO (tS 8) "_ascii_buffer" "_ascii_buffer" (.none) (.none) "binascii" 264 90),(92,tO []),(94,tO [.str "data" 295,.str "t" 296]),(95,tO []),(97,cO "_buffer" "_buffer" 292 76 1 0 0 3 92 true 297),(98,fO (tS 9) "_buffer" "_buffer" (.none) (.none) "binascii" 264 97),(99,tO []),(101,tO [.str "x" 303,.str "t" 304]),(102,tO []),(104,cO "_truth" "_truth" 300 83 1 0 0 3 99 true 305),(105,fO (tS 10) "_truth" "_truth" (.none) (.none) "binascii" 264 104),(106,tO []),(108,tO [.str "c" 313]),(109,tO []),(111,cO "_b64_value" "_b64_value" 310 89 1 0 0 3 106 true 314),(112,fO (tS 12) "_b64_value" "_b64_value" (.none) (.none) "binascii" 264 111),(113,dO 1 [eP P "strict_mode" 317 (.bool false)]),(114,tO []),(116,tO [.str "data" 321,.str "strict_mode" 322,.str "ascii_data" 323,.str "out" 324,.str "quad_pos" 325,.str "leftchar" 326,.str "pads" 327,.str "i" 328,.str "this_ch" 329]),(117,tO []),(119,cO "a2b_base64" "a2b_base64" 318 101 1 1 1 3 114 true 330),(120,fO (tS 13) "a2b_base64" "a2b_base64" (.none) (.ref 113) "binascii" 264 119),(121,dO 1 [eP P "newline" 333 (.bool true)]),(122,tO []),(124,tO [.str "data" 337,.str "newline" 338,.str "bin_data" 339,.str "out" 340,.str "leftbits" 341,.str "leftchar" 342,.str "b" 343]),(125,tO []),(127,cO "b2a_base64" "b2a_base64" 334 155 1 1 1 3 122 true 344),(128,fO (tS 14) "b2a_base64" "b2a_base64" (.none) (.ref 121) "binascii" 264 127),(129,tO [.none]),(130,tO []),(132,tO [.str "s" 352,.str "altchars" 353,.str "encoded" 354]),(133,tO []),(135,cO "b64encode" "b64encode" 349 178 2 0 0 3 130 true 355),(136,fO (tS 16) "b64encode" "b64encode" (.ref 129) (.none) "cpy313.base64" 347 135),(137,tO [.none,.bool false]),(138,tO []),(140,tO [.str "s" 361,.str "altchars" 362,.str "validate" 363]),(141,tO []),(143,cO "b64decode" "b64decode" 358 184 3 0 0 3 138 true 364),(144,fO (tS 17) "b64decode" "b64decode" (.ref 137) (.none) "cpy313.base64" 347 143),(152,tO [.str "node" 387,.str "npredecessors" 388,.str "successors" 389]),(153,tO []),(155,tO [.str "self" 394,.str "node" 395]),(156,tO []),(158,cO "__init__" "_NodeInfo.__init__" 391 197 2 0 0 3 153 true 396),(159,fO (cS 21 1) "__init__" "_NodeInfo.__init__" (.none) (.none) "cpy313.graphlib" 367 158),(160,tO [.str "node" 399,.str "npredecessors" 400,.str "successors" 401]),(162,dO 5 [eP P "__module__" 382 (.str "cpy313.graphlib" 367),eP P "__firstlineno__" 386 (.int 194 385),eP P "__slots__" 390 (.ref 152),eP P "__init__" 398 (.ref 159),eP P "__static_attributes__" 402 (.ref 160),eP P "node" 404 (.ref 164),eP P "npredecessors" 406 (.ref 165),eP P "successors" 408 (.ref 166),eP P "__doc__" 409 (.none)]),(163,Qe "_NodeInfo" false ["node","npredecessors","successors"] [.type "object"] [.ref 163,.type "object"] 162 #[none,none,some (.str "_NodeInfo" 375),some (.str "_NodeInfo" 383),some (.builtin "object.__new__"),some (.bool false)]),(164,⟨.type "member_descriptor",none,.fields #[.str "node" 403,.ref 163,.builtin "proto.slot",.builtin "proto.slot#set",.int 2 0],#[]⟩),(165,⟨.type "member_descriptor",none,.fields #[.str "npredecessors" 405,.ref 163,.builtin "proto.slot",.builtin "proto.slot#set",.int 1 0],#[]⟩),(166,⟨.type "member_descriptor",none,.fields #[.str "successors" 407,.ref 163,.builtin "proto.slot",.builtin "proto.slot#set",.int 0 0],#[]⟩),(169,tO [.type "ValueError"]),(176,tO []),(177,dO 3 [eP P "__module__" 419 (.str "cpy313.graphlib" 367),eP P "__firstlineno__" 423 (.int 201 422),eP P "__static_attributes__" 424 (.ref 176),eP P "__weakref__" 426 (.ref 179),eP P "__doc__" 427 (.none)]),(178,Qe "CycleError" true [] [.type "ValueError"] [.ref 178,.type "ValueError",.type "Exception",.type "BaseException",.type "object"] 177 #[some (.ref 169),none,some (.str "CycleError" 412),some (.str "CycleError" 420),some (.builtin "ValueError.__new__"),some (.bool true)]),(179,⟨.type "getset_descriptor",none,.fields #[.str "__weakref__" 425,.ref 178,.builtin "ExceptionGroup.__weakref__",.none],#[]⟩),(189,tO [.none]),(190,tO []),(192,tO [.str "self" 445,.str "graph" 446,.str "node" 447,.str "predecessors" 448]),(193,tO []),(195,cO "__init__" "TopologicalSorter.__init__" 442 205 2 0 0 3 190 true 449),(196,fO (cS 23 0) "__init__" "TopologicalSorter.__init__" (.ref 189) (.none) "cpy313.graphlib" 367 195),(197,tO []),(199,tO [.str "self" 455,.str "node" 456,.str "result" 457]),(200,tO []),(202,cO "_get_nodeinfo" "TopologicalSorter._get_nodeinfo" 452 214 2 0 0 3 197 true 458),(203,fO (cS 23 1) "_get_nodeinfo" "TopologicalSorter._get_nodeinfo" (.none) (.none) "cpy313.graphlib" 367 202),(204,tO []),(206,tO [.str "self" 464,.str "node" 465,.str "predecessors" 466,.str "nodeinfo" 467,.str "pred" 468,.str "pred_info" 469]),(207,tO []),(209,cO "add" "TopologicalSorter.add" 461 219 2 0 0 7 204 true 470),(210,fO (cS 23 2) "add" "TopologicalSorter.add" (.none) (.none) "cpy313.graphlib" 367 209),(211,tO []),(214,cO "prepare" "TopologicalSorter.prepare" 473 228 1 0 0 3 211 false 476),(215,fO (cS 23 3) "prepare" "TopologicalSorter.prepare" (.none) (.none) "cpy313.graphlib" 367 214),(216,tO []),(218,tO [.str "self" 482,.str "result" 483,.str "n2i" 484,.str "node" 485]),(219,tO []),(221,cO "get_ready" "TopologicalSorter.get_ready" 479 236 1 0 0 3 216 true 486),(222,fO (cS 23 4) "get_ready" "TopologicalSorter.get_ready" (.none) (.none) "cpy313.graphlib" 367 221),(223,tO []),(225,tO [.str "self" 492]),(226,tO []),(228,cO "is_active" "TopologicalSorter.is_active" 489 247 1 0 0 3 223 true 493),(229,fO (cS 23 5) "is_active" "TopologicalSorter.is_active" (.none) (.none) "cpy313.graphlib" 367 228),(230,tO []),(232,tO [.str "self" 499]),(233,tO []),(235,cO "__bool__" "TopologicalSorter.__bool__" 496 252 1 0 0 3 230 true 500),(236,fO (cS 23 6) "__bool__" "TopologicalSorter.__bool__" (.none) (.none) "cpy313.graphlib" 367 235),(237,tO []),(239,tO [.str "self" 506,.str "nodes" 507,.str "n2i" 508,.str "node" 509,.str "nodeinfo" 510,.str "stat" 511,.str "successor" 512,.str "successor_info" 513]),(240,tO []),(242,cO "done" "TopologicalSorter.done" 503 255 1 0 0 7 237 true 514),(243,fO (cS 23 7) "done" "TopologicalSorter.done" (.none) (.none) "cpy313.graphlib" 367 242),(244,tO []),(246,tO [.str "self" 520,.str "n2i" 521,.str "stack" 522,.str "itstack" 523,.str "seen" 524,.str "node2stacki" 525,.str "node" 526]),(247,tO []),(249,cO "_find_cycle" "TopologicalSorter._find_cycle" 517 278 1 0 0 3 244 true 527),(250,fO (cS 23 8) "_find_cycle" "TopologicalSorter._find_cycle" (.none) (.none) "cpy313.graphlib" 367 249),(251,tO []),(253,tO [.str "self" 533]),(254,tO []),(256,cO "static_order" "TopologicalSorter.static_order" 530 307 1 0 0 3 251 true 534),(257,fO (cS 23 9) "static_order" "TopologicalSorter.static_order" (.none) (.none) "cpy313.graphlib" 367 256),(258,tO [.str "_nfinished" 537,.str "_node2info" 538,.str "_npassedout" 539,.str "_ready_nodes" 540]),(259,dO 4 [eP P "__module__" 437 (.str "cpy313.graphlib" 367),eP P "__firstlineno__" 441 (.int 203 440),eP P "__init__" 451 (.ref 196),eP P "_get_nodeinfo" 460 (.ref 203),eP P "add" 472 (.ref 210),eP P "prepare" 478 (.ref 215),eP P "get_ready" 488 (.ref 222),eP P "is_active" 495 (.ref 229),eP P "__bool__" 502 (.ref 236),eP P "done" 516 (.ref 243),eP P "_find_cycle" 529 (.ref 250),eP P "static_order" 536 (.ref 257),eP P "__static_attributes__" 541 (.ref 258),eP P "__dict__" 543 (.ref 261),eP P "__weakref__" 545 (.ref 262),eP P "__doc__" 546 (.none)]),(260,Qe "TopologicalSorter" true [] [.type "object"] [.ref 260,.type "object"] 259 #[none,none,some (.str "TopologicalSorter" 430),some (.str "TopologicalSorter" 438),some (.builtin "object.__new__"),some (.bool true)]),(261,⟨.type "getset_descriptor",none,.fields #[.str "__dict__" 542,.ref 260,.builtin "function.__dict__",.builtin "function.__dict__#set"],#[]⟩),(262,⟨.type "getset_descriptor",none,.fields #[.str "__weakref__" 544,.ref 260,.builtin "ExceptionGroup.__weakref__",.none],#[]⟩),(265,tO []),(267,tO [.str "text" 554,.str "stream" 555,.str "_law_piece" 556]),(268,tO [.str "text" 557,.str "gone" 558]),(270,cO "_law_lexer" "_law_lexer" 551 310 1 0 0 3 265 true 559),(271,fO (tS 25) "_law_lexer" "_law_lexer" (.none) (.none) "law_qh0029_01" 549 270),(272,tO []),(274,tO [.str "figures" 565,.str "row" 566,.str "place" 567,.str "number" 568,.str "figure" 569]),(275,tO []),(277,cO "_law_octets" "_law_octets" 562 320 1 0 0 3 272 true 570),(278,fO (tS 26) "_law_octets" "_law_octets" (.none) (.none) "law_qh0029_01" 549 277),(279,tO []),(281,tO [.str "sign" 576,.str "call" 577]),(282,tO []),(284,cO "_law_put" "_law_put" 573 328 2 0 0 3 279 true 578),(285,fO (tS 27) "_law_put" "_law_put" (.none) (.none) "law_qh0029_01" 549 284),(286,tO []),(289,cO "_law_due" "_law_due" 581 330 1 0 0 3 286 false 584),(290,fO (tS 28) "_law_due" "_law_due" (.none) (.none) "law_qh0029_01" 549 289),(291,tO []),(293,tO [.str "text" 590,.str "place" 591,.str "lexer" 592,.str "word" 593,.str "lines" 594]),(294,tO []),(296,cO "_law_read" "_law_read" 587 351 2 0 0 3 291 true 595),(297,fO (tS 29) "_law_read" "_law_read" (.none) (.none) "law_qh0029_01" 549 296),(298,tO []),(301,cO "_law_handed" "_law_handed" 598 356 1 0 0 3 298 false 601),(302,fO (tS 30) "_law_handed" "_law_handed" (.none) (.none) "law_qh0029_01" 549 301),(303,tO []),(306,cO "_law_stands" "_law_stands" 604 380 1 0 0 3 303 false 607),(307,fO (tS 31) "_law_stands" "_law_stands" (.none) (.none) "law_qh0029_01" 549 306),(308,tO []),(310,tO [.str "start" 613,.str "steps" 614,.str "calls" 615,.str "place" 616,.str "joined" 617]),(311,tO []),(313,cO "_law_walk" "_law_walk" 610 387 3 0 0 3 308 true 618),(314,fO (tS 32) "_law_walk" "_law_walk" (.none) (.none) "law_qh0029_01" 549 313),(315,tO []),(318,cO "_law_told" "_law_told" 621 393 2 0 0 3 315 false 624),(319,fO (tS 33) "_law_told" "_law_told" (.none) (.none) "law_qh0029_01" 549 318),(320,tO []),(323,cO "law" "law" 627 397 1 0 0 3 320 false 630),(324,fO (tS 34) "law" "law" (.none) (.none) "law_qh0029_01" 549 323)]
noncomputable def V5:List Addr:=[2,3,15,17,18,20,21,29,31,32,34,35,36,38,39,41,42,43,45,46,48,49,50,52,53,55,56,57,58,59,60,61,64,65,67,68,70,71,72,79,80,81,82,85,87,88,90,91,92,94,95,97,98,99,101,102,104,105,106,108,109,111,112,113,114,116,117,119,120,121,122,124,125,127,128,129,130,132,133,135,136,137,138,140,141,143,144,152,153,155,156,158,159,160,162,163,164,165,166,169,176,177,178,179,189,190,192,193,195,196,197,199,200,202,203,204,206,207,209,210,211,214,215,216,218,219,221,222,223,225,226,228,229,230,232,233,235,236,237,239,240,242,243,244,246,247,249,250,251,253,254,256,257,258,259,260,261,262,265,267,268,270,271,272,274,275,277,278,279,281,282,284,285,286,289,290,291,293,294,296,297,298,301,302,303,306,307,308,310,311,313,314,315,318,319,320,323,324]
def Nu:∀P,V5=(hp P).map (·.1):=λ P=>by kernel_rfl
noncomputable abbrev HK:Hook:=kmHook hp V5 Nu [266]
noncomputable def Qf:Program:={Gd with main:={Gd.main with body:=[0,2,4,5,7,8,9,10,11,12,19,20,21,22,23,25,26,27,28,29,30,31,32,33,34].map tS}}
noncomputable abbrev Ge:List Str:=["bytes_types","a2b_base64","b2a_base64","b64encode","b64decode","_NodeInfo"]
set_option maxHeartbeats 0 in
def Qg:LeftO PySem.Challenge.rw_qh0029_01.row.toRowW.prog Qf Ge (λ s=>xlAt Qf [] s&&recOk (RowW.records PySem.Challenge.rw_qh0029_01.row.toRowW) s) (Hook.obs HK) (Hook.val HK) 4540:=λ w=>by kernel_rfl
def dD{p:Prop}[Decidable p](h:decide p=true:=by exact Eq.refl true):p:=ae h
def nn{α:Type}{a:α}{P:Prop}(h:Option.none=some a):P:=nomatch h
def nf{P:Prop}(h:false=true):P:=nomatch h
def nt{P:Prop}(h:true=false):P:=nomatch h
def sn{α:Type}{a:α}{P:Prop}(h:some a=Option.none):P:=nomatch h
def mn{α:Type}{a:α}{P:Prop}(h:a∈([]:List α)):P:=nomatch h
def mN{α:Type}{P:α->Prop}:∀x∈([]:List α),P x:=λ D h=>mn h
def PQ{α:Type}{a:α}{l:List α}{P:Prop}(h:[]=a::l):P:=nomatch h
def PR{α:Type}{a:α}{l:List α}{P:Prop}(h:a::l=[]):P:=nomatch h
def TB{a b:NameKind}{P:Prop}(h:a=b):NameKind.noConfusionType P a b:=NameKind.noConfusion h
def Kg{a b:Value}{P:Prop}(h:a=b):Value.noConfusionType P a b:=Value.noConfusion h
def jI{a b:Bool}(M:a=true)(N:b=true):(a&&b)=true:=by refine M.symm▸N.symm▸?_;rfl
def ao{a b:Bool}(h:(a&&b)=true):a=true/\b=true:=by induction a<;>first|exact⟨rfl,h⟩|exact nf h
def jJ{a:Bool}(h:(!a)=true):a=false:=by induction a<;>first|rfl|exact nf h
def SO{a b:Bool}(h:(a||b)=true):a=true\/b=true:=by induction a<;>first|exact .inl rfl|exact .inr h
def w5{α:Type}{o:Option α}{f:α->Bool}(h:o.any f=true):∃x,o=some x/\f x=true:=by induction o<;>first|exact nf h|exact⟨_,rfl,h⟩
def lC{α:Type}{m:List α->Prop}:type_of%(@List.casesOn α m):=List.casesOn
def nC{m:Nat->Prop}:type_of%(@Nat.casesOn m):=Nat.casesOn
def wa{m:PySem.Expr->Prop}:type_of%(@PySem.Expr.casesOn m):=PySem.Expr.casesOn
def kN{T id:String}{name:Str}(owner n:String)(I:fastLookup T name=some (some (.builtin id)):=by kernel_rfl)(H:splitId id=some (owner,n):=by kernel_rfl)(w:withoutEnding? id "#opaque"=none:=by kernel_rfl)(hd:withoutEnding? id "#data"=none:=by kernel_rfl)(u:(Manifest.find? owner).bind (·.attrs.lookup n)=some .slot\/(Manifest.find? owner).bind (·.attrs.lookup n)=some .method:=by decide+kernel)(hm:(fastBuiltinMro T).map (·.contains (.type owner))=some true:=by kernel_rfl)(q:plainId id=true:=by kernel_rfl):Slot T name id:= .of (by rw[typeLookup_type,builtinLookup_eq_fast,I]) H w hd u (by
  obtain⟨m,e,h⟩:=dR.mp hm
  rw[sT,e,<-h]) q
def Gf{id t:String}(h:fastBuiltinType id=pure (.type t):=by kernel_rfl):typeOf (.builtin id)=pure (.type t):=by refine(?_:builtinType _=_);rw[builtinType_eq_fast];exact h
inductive Bi where
 |len|sum|sorted|iter|isinstance
 deriving DecidableEq,Inhabited
noncomputable def Bi.id:Bi->String
 | .len=>"len"| .sum=>"sum"| .sorted=>"sorted"| .iter=>"iter"| .isinstance=>"isinstance"
inductive Ty where
 |int|bytes|bytearray|str|bool|list|tuple|set|type|range|zip|enumerate|float|complex|dict|frozenset|none|lQ|iO
 deriving DecidableEq,Inhabited
noncomputable def Ty.name:Ty->String
 | .int=>"int"| .bytes=>"bytes"| .bytearray=>"bytearray"| .str=>"str"| .bool=>"bool"| .list=>"list"| .tuple=>"tuple"| .set=>"set"| .type=>"type"| .range=>"range"| .zip=>"zip"
 | .enumerate=>"enumerate"| .float=>"float"| .complex=>"complex"| .dict=>"dict"| .frozenset=>"frozenset"| .none=>"NoneType"| .lQ=>"StopIteration"| .iO=>"ValueError"
inductive Bm where
 |jm|yY|jo|lR|w6|yZ|ie|qZ|d4|jq|dg|lS|q4
 deriving DecidableEq,Inhabited
noncomputable def Bm.id:Bm->String
 | .jm=>"list.append"| .yY=>"list.pop"| .jo=>"list.extend"| .lR=>"list.clear"| .w6=>"dict.get"| .yZ=>"set.add"| .ie=>"str.encode"| .qZ=>"str.join"
 | .d4=>"bytes.translate"| .jq=>"bytes.decode"| .dg=>"bytes.maketrans"| .lS=>"str.count"| .q4=>"bytes.join"
inductive V where
 |none
 |bool (b:Bool)
 |int (i:Int)
 |str (s:List Nat)
 |bytes (b:List Nat)
 |ref (i:Nat)
 |list (vs:List V)
 |tuple (vs:List V)
 |glob (a:Nat)
 |bi (b:Bi)
 |ty (t:Ty)
 |bm (b:Bm)
 |it (pr:Bool) (vs:List V)
 |lh (i:Nat)
 |aC
 deriving Inhabited
def vn{a b:V}{P:Prop}(h:a=b):V.noConfusionType P a b:=V.noConfusion h
def vC{m:V->Prop}:type_of%(@V.casesOn m):=V.casesOn
inductive O where
 |dead
 |list (vs:List V)
 |dict (bJ:List (Int×V)) (ep:Nat)
 |set (xs:List Int)
 |inst (c:Nat) (attrs:List (Nat×V))
 |node (c:Nat) (vs:List V)
 |u5 (k:Nat) (vs:List V)
 |dZ (fn:Nat) (f:V)
 |rN
 |yQ (l:Nat) (i:Nat)
 |w7 (xs:List Int)
 deriving Inhabited
def od{a b:O}{P:Prop}(h:a=b):O.noConfusionType P a b:=O.noConfusion h
structure Mem where
 n:Nat
 f:Nat->O
noncomputable def Mem.alloc(Y:Mem)(o:O):Mem:=⟨Y.n+1,λ i=>if i=Y.n then o else Y.f i⟩
noncomputable def Mem.set(Y:Mem)(a:Nat)(o:O):Mem:=⟨Y.n,λ i=>if i=a then o else Y.f i⟩
structure Vw where
 ρ:Nat->Addr
 fp:Nat->List Addr
 x:List Addr
 y:List Addr
 z:List Addr
 Y:Mem
def Vw.live(c:Vw)(i:Nat):Prop:=i<c.Y.n/\c.Y.f i≠.dead
def Vw.T(c:Vw)(b:Addr):Prop:=∃i,c.live i/\b∈c.fp i
def Vw.N(c:Vw)(b:Addr):Prop:=c.T b\/b∈c.y\/b∈c.z
def SeqAt(h:Heap)(T:String)(a:Addr)(f:List Value):Prop:=∃n,h.get? a=some {cls:= .type T,dict:= .none,data:= .seq f.toArray n,slots:= #[]}
noncomputable def strOf(s:List Nat):Str:=⟨s.toArray⟩
noncomputable def bG(b:List Nat):Array UInt8:=(b.map UInt8.ofNat).toArray
mutual
def aE(c:Vw)(h:Heap):V->Value->Prop
 | .none,x=>x= .none| .bool b,x=>x= .bool b
 | .int i,x=>∃t,x= .int i t| .str s,x=>∃t,x= .str (strOf s) t
 | .bytes b,x=>(∀y∈b,y<256)/\∃t,x= .bytes (bG b) t| .ref i,x=>i<c.Y.n/\x= .ref (c.ρ i)
 | .list vs,x=>∃a f,x= .ref a/\SeqAt h "list" a f/\¬c.N a/\aA c h vs f| .tuple vs,x=>∃a f,x= .ref a/\SeqAt h "tuple" a f/\¬c.N a/\aA c h vs f
 | .glob a,x=>x= .ref a| .bi b,x=>x= .builtin b.id
 | .ty t,x=>x= .type t.name| .bm b,x=>x= .builtin b.id
 | .it _ _,_=>False| .lh _,_=>False
 | .aC,_=>False
def aA(c:Vw)(h:Heap):List V->List Value->Prop
 |[],[]=>True|v::vs,x::xs=>aE c h v x/\aA c h vs xs
 |[],_::_=>False|_::_,[]=>False
end
structure Carry(c:Vw)(h:Heap)(c':Vw)(h':Heap):Prop where
 n:c.Y.n<=c'.Y.n
 ρ:∀i,i<c.Y.n->c'.ρ i=c.ρ i
 fp:∀i,i<c.Y.n->c'.fp i=c.fp i
 old:∀b,b<h.objs.size->c'.T b->c.T b
 y0:∀b,b<h.objs.size->c'.N b->c.N b
 seq:∀b o,h.get? b=some o->¬c.N b->(o.cls= .type "list"\/o.cls= .type "tuple")->h'.get? b=some o
def Carry.refl(c:Vw)(h:Heap):Carry c h c h:=⟨ah _,λ D D=>rfl,λ D D=>rfl,λ D D t=>t,λ D D t=>t,λ D D e D D=>e⟩
def Carry.trans{c G j:Vw}{h h' C:Heap}(x:Carry c h G h')(y:Carry G h' j C)(H:h.objs.size<=h'.objs.size):Carry c h j C where
 n:=aa x.n y.n
 ρ:=λ i hi=>(y.ρ i (ai hi x.n)).trans (x.ρ i hi)
 fp:=λ i hi=>(y.fp i (ai hi x.n)).trans (x.fp i hi)
 old:=λ b U t=>x.old b U (y.old b (ai U H) t)
 y0:=λ b U t=>x.y0 b U (y.y0 b (ai U H) t)
 seq:=λ b o e nt w=>y.seq b o (x.seq b o e nt w) (λ t=>nt (x.y0 b (b6 e) t)) w
structure Tr(c:Vw)(h:Heap)(c':Vw)(h':Heap):Prop where
 n:c.Y.n<=c'.Y.n
 ρ:∀i,i<c.Y.n->c'.ρ i=c.ρ i
 seq:∀{T:String}{a:Addr}{aM:List Value},(T="list"\/T="tuple")->SeqAt h T a aM->¬c.N a->SeqAt h' T a aM/\¬c'.N a
def Carry.tr{c G:Vw}{h h':Heap}(k:Carry c h G h'):Tr c h G h':=⟨k.n,k.ρ,λ{T a f} I s nt=>by
 obtain⟨n,e⟩:=s
 exact⟨⟨n,k.seq a _ e nt (I.imp (aF Value.type) (aF Value.type))⟩,λ t=>nt (k.y0 a (b6 e) t)⟩⟩
def SeqAt.carry{c G:Vw}{h h':Heap}(k:Carry c h G h'){T:String}{a:Addr}{f:List Value}(I:T="list"\/T="tuple")(s:SeqAt h T a f)(nt:¬c.N a):SeqAt h' T a f/\¬G.N a:=k.tr.seq I s nt
def aA.ind{c:Vw}{h:Heap}{P:List V->List Value->Prop}(Q:P [] [])(M:∀v vs x xs,aE c h v x->aA c h vs xs->P vs xs->P (v::vs) (x::xs)){vs:List V}{xs:List Value}(r:aA c h vs xs):P vs xs:=by induction vs generalizing xs with
 |nil=>induction xs using lC with
  |nil=>exact Q|cons=>exact r.elim
 |cons v vs z=>induction xs using lC with
  |nil=>exact r.elim|cons x xs=>exact M v vs x xs r.1 r.2 (z r.2)
def aE.map{c G:Vw}{h h':Heap}(k:Tr c h G h'){v:V}:∀{x:Value},aE c h v x->aE G h' v x:=by induction v using V.rec (motive_2:=λ vs=>∀{xs:List Value},aA c h vs xs->aA G h' vs xs)with
 |ref i=>exact λ r=>⟨ai r.1 k.n,by exact k.ρ i r.1▸r.2⟩|list vs z=>exact λ⟨a,f,e,s,nt,r⟩=>⟨a,f,e,(k.seq (.inl rfl) s nt).1,(k.seq (.inl rfl) s nt).2,z r⟩
 |tuple vs z=>exact λ⟨a,f,e,s,nt,r⟩=>⟨a,f,e,(k.seq (.inr rfl) s nt).1,(k.seq (.inr rfl) s nt).2,z r⟩|nil=>rename aA c h _ _=>r;induction xs using lC with
  |nil=>trivial|cons=>exact r.elim
 |cons v vs Q q=>rename aA c h _ _=>r;induction xs using lC with
  |nil=>exact r.elim|cons x xs=>exact⟨Q r.1,q r.2⟩
 |_=>exact λ r=>r
def aA.map{c G:Vw}{h h':Heap}(k:Tr c h G h'){vs:List V}{xs:List Value}(r:aA c h vs xs):aA G h' vs xs:=r.ind (P:=λ vs xs=>aA G h' vs xs) trivial λ D D D D r D z=>⟨r.map k,z⟩
def aE.carry{c G:Vw}{h h':Heap}(k:Carry c h G h'){v:V}{x:Value}(r:aE c h v x):aE G h' v x:=r.map k.tr
def aA.carry{c G:Vw}{h h':Heap}(k:Carry c h G h'){vs:List V}{xs:List Value}(r:aA c h vs xs):aA G h' vs xs:=r.map k.tr
def aA.length{c:Vw}{h:Heap}{vs:List V}{xs:List Value}(r:aA c h vs xs):vs.length=xs.length:=r.ind (P:=λ vs xs=>vs.length=xs.length) rfl λ D D D D D D z=>aF (·+1) z
def aA.append{c:Vw}{h:Heap}{vs ws:List V}{xs ys:List Value}(r:aA c h vs xs)(q:aA c h ws ys):aA c h (vs++ws) (xs++ys):=r.ind (P:=λ vs xs=>aA c h (vs++ws) (xs++ys)) q λ D D D D r D z=>⟨r,z⟩
def aA.get{c:Vw}{h:Heap}{vs:List V}{xs:List Value}{i:Nat}{v:V}(r:aA c h vs xs):vs[i]? =some v->∃x,xs[i]? =some x/\aE c h v x:=r.ind (P:=λ vs xs=>∀i:Nat,vs[i]? =some v->∃x,xs[i]? =some x/\aE c h v x) (λ D e=>nn e) (λ o D x D r D z i=>Nat.casesOn i (λ e=>⟨x,rfl,aN e▸r⟩) λ i e=>z i e) i
def aA.take{c:Vw}{h:Heap}{vs:List V}{xs:List Value}(n:Nat)(r:aA c h vs xs):aA c h (vs.take n) (xs.take n):=r.ind (P:=λ vs xs=>∀n:Nat,aA c h (vs.take n) (xs.take n)) (λ n=>Nat.casesOn n trivial λ D=>trivial) (λ D D D D r D z n=>Nat.casesOn n trivial λ n=>⟨r,z n⟩) n
def aA.drop{c:Vw}{h:Heap}{vs:List V}{xs:List Value}(n:Nat)(r:aA c h vs xs):aA c h (vs.drop n) (xs.drop n):=r.ind (P:=λ vs xs=>∀n:Nat,aA c h (vs.drop n) (xs.drop n)) (λ n=>Nat.casesOn n trivial λ D=>trivial) (λ D D D D r E z n=>Nat.casesOn n ⟨r,E⟩ λ n=>z n) n
abbrev Up(l:List Nat):Prop:=l.Pairwise (·<·)
def s7{l:List Nat}(h:Up l){i j:Nat}(hi:i<j)(t:j<l.length):l[i]'(fz hi t)<l[j]:=List.pairwise_iff_getElem.mp h i j _ t hi
structure Nv(l:List Nat)(j r:Nat):Prop where
 le:r<=l.length
 lo:∀i(h:i<l.length),i<r->l[i]<j
 hi:∀i(h:i<l.length),r<=i->j<=l[i]
def Gg{xs:Array Nat}(h:Up xs.toList)(j:Nat)(fuel:Nat):∀lo hi:Nat,hi-lo<=fuel->lo<=hi->hi<=xs.size->(∀i(h:i<xs.toList.length),i<lo->xs.toList[i]<j)->(∀i(h:i<xs.toList.length),hi<=i->j<=xs.toList[i])->Nv xs.toList j (SetTable.below.go xs j fuel lo hi):=by induction fuel with
 |zero=>intro lo hi M N d C U;have e:lo=hi:=w4 N (Nat.le_of_sub_eq_zero (Nat.le_zero.mp M));exact⟨aa (bO e) d,C,λ i H l=>U i H (e▸l)⟩|succ fuel z=>
  intro lo hi M N d C U;by_cases I:lo<hi;have hm:(lo+hi)/2<hi:=Nat.div_lt_of_lt_mul (Nat.two_mul hi▸Bc I hi);have u:lo<=(lo+hi)/2:=(Nat.le_div_iff_mul_le dD).mpr (Nat.mul_two lo▸mY N lo);have y:(lo+hi)/2<xs.toList.length:=ai hm d;have a:xs.getD ((lo+hi)/2) j=xs.toList[(lo+hi)/2]:=by rw[Array.getD_eq_getD_getElem?,qT y];rfl
  have e:SetTable.below.go xs j (fuel+1) lo hi=if xs.getD ((lo+hi)/2) j<j then SetTable.below.go xs j fuel ((lo+hi)/2+1) hi else SetTable.below.go xs j fuel lo ((lo+hi)/2):=by refine(?_:(if lo<hi then _ else lo)=_);exact(ar I).trans rfl
  rw[e,a];by_cases L:xs.toList[(lo+hi)/2]<j;rw[ar L];exact z _ hi (aa (Nat.sub_le_sub_left (gK u) hi) (Nat.pred_le_pred M)) hm d (λ i H l=>(lF (iG l)).elim (λ q=>fz (s7 h q y) L) λ q=>by subst q;exact L) U;rw[au L];exact z lo _ (iG (ai (Nat.sub_lt_sub_right u hm) M)) u (bo (ai hm d)) C λ i H l=>(lF l).elim (λ q=>aa (Nat.not_lt.mp L) (bo (s7 h q H))) λ q=>by subst q;exact Nat.not_lt.mp L
  have e:lo=hi:=w4 N (Nat.not_lt.mp I);have r:SetTable.below.go xs j (fuel+1) lo hi=lo:=by refine(?_:(if lo<hi then _ else lo)=_);exact au I
  rw[r];exact⟨aa N d,C,λ i H l=>U i H (e▸l)⟩
def below_at{xs:Array Nat}(h:Up xs.toList)(j:Nat):Nv xs.toList j (SetTable.below xs j):=Gg h j xs.size 0 xs.size (ah _) (cI _) (ah _) (λ i D h=>absurd h (jW _)) λ i h N=>absurd N (fB.mpr h)
def Nv.uniq{l:List Nat}{j r q:Nat}(a:Nv l j r)(b:Nv l j q):r=q:=by rcases Nat.lt_trichotomy r q with h|h|h;exact absurd (a.hi r (ai h b.le) (ah _)) (fB.mpr (b.lo r _ h));exact h;exact absurd (b.hi q (ai h a.le) (ah _)) (fB.mpr (a.lo q _ h))
def Eg{xs:Array Nat}(h:Up xs.toList){j:Nat}(t:xs[SetTable.below xs j]?≠some j):Up (SetTable.insertAt xs (SetTable.below xs j) j).toList:=by
 have a:=below_at h j;rw[SetTable.toList_insertAt];generalize SetTable.below xs j=r at a t;have hd:∀y∈xs.toList.drop r,j<y:=λ y T=>by obtain⟨i,hi,e⟩:=List.getElem_of_mem T;rw[List.getElem_drop]at e;rw[fk]at hi;have H:r+i<xs.toList.length:=Nat.add_lt_of_lt_sub' hi;refine oG (e▸a.hi (r+i) H (av _ _)) λ q=> ?_;have l:r<xs.toList.length:=bt (av _ _) H;have Q:=a.hi r l (ah _);refine t ((qT l).trans (aF some (w4 ?_ Q)));rcases Nat.eq_zero_or_pos i with z|z;subst z;exact bO (e.trans q.symm);exact bo (Nat.lt_of_lt_of_eq (s7 h (qU z) H) (e.trans q.symm))
 have I:∀y∈xs.toList.take r,y<j:=λ y T=>by obtain⟨i,hi,e⟩:=List.getElem_of_mem T;rw[List.getElem_take]at e;rw[List.length_take]at hi;exact e▸a.lo i (Nat.lt_min.mp hi).2 (Nat.lt_min.mp hi).1
 refine List.pairwise_append.mpr ⟨h.sublist (List.take_sublist _ _),List.pairwise_cons.mpr ⟨hd,h.sublist (List.drop_sublist _ _)⟩,λ x L y T=> ?_⟩;exact(aT.mp T).elim (λ e=>e▸I x L) λ T=>fz (I x L) (hd y T)
structure qg(t:SetTable)(led:Bool):Prop where
 led:t.led=led
 dm:t.dummies= #[]
 up:Up t.place.toList
def Kh{t:SetTable}(h:t.dummies= #[]){j:Nat}(hd:t.slot j= .dummy):False:=by unfold SetTable.slot at hd;dsimp only at hd;split at hd;exact SetTable.Slot.noConfusion hd;rw[h]at hd;exact SetTable.Slot.noConfusion (show SetTable.Slot.empty= .dummy from hd)
def Ki{t:SetTable}{j:Nat}(h:t.slot j= .empty):t.place[SetTable.below t.place j]?≠some j:=λ e=>by unfold SetTable.slot at h;dsimp only at h;rw[e,ar (f9 _)]at h;exact SetTable.Slot.noConfusion h
def Be{t:SetTable}(hd:t.dummies= #[]){f:Nat->Int}{h:Int}{j:Nat}{d:Option Nat}(n:Nat):∀p:SetTable.Probe,p.dummy=none->SetTable.probe.go t f h n p=some (.empty j d)->d=none/\t.slot j= .empty:=by induction n with
 |zero=>intro p D e;exact nn e|succ n z=>
  intro p hp e;have b:(t.advance p).dummy=none:=by unfold SetTable.advance;split<;>exact hp
  have e:(match t.slot p.j with
   | .empty=>some (SetTable.Met.empty p.j p.dummy)| .dummy=>SetTable.probe.go t f h n (t.advance {p with dummy:=some p.j})
   | .live i=>if f i==h then some (.candidate p.j i (t.advance p))else SetTable.probe.go t f h n (t.advance p))=some (.empty j d):=e
  generalize H:t.slot p.j=L at e;induction L with
  |empty=>obtain⟨rfl,rfl⟩:=SetTable.Met.empty.inj (aN e);exact⟨hp,H⟩
  |dummy=>exact(Kh hd H).elim|live i=>have e:(if f i==h then some (SetTable.Met.candidate p.j i (t.advance p))else SetTable.probe.go t f h n (t.advance p))=some (.empty j d):=e;by_cases q:(f i==h)=true;rw[ar q]at e;exact SetTable.Met.noConfusion (aN e);rw[au q]at e;exact z _ b e
def y3{t:SetTable}(hd:t.dummies= #[]){h:Int}{r:Nat×Bool}(e:t.freeSlot h=some r):r.2=false/\t.slot r.1= .empty:=by unfold SetTable.freeSlot SetTable.probe at e;split at e;rename_i q;obtain⟨rfl,z⟩:=Be hd _ _ rfl q;exact aN e▸⟨rfl,z⟩;exact nn e
def Gh(n:Nat):Up (Array.range n).toList:=by rw[Array.toList_range];exact List.pairwise_lt_range
def ij{t:SetTable}{b:Bool}(h:qg t b)(n:Nat):qg (t.standIn n) b:=⟨h.led,rfl,Gh n⟩
def y4{t:SetTable}{b:Bool}(g:qg t b)(es:Array (Int×Value))(h:Int)(x:Value):qg (layNew t es h x).2.1 b:=by
 unfold layNew;split;rename_i q;rename Nat=>slot
 obtain⟨_,H⟩:=y3 g.dm q;have m:qg (t.put slot).1 b:=⟨g.led,by
  refine(?_:(if SetTable.has t.dummies slot then SetTable.eraseAt t.dummies (SetTable.below t.dummies slot)else t.dummies)= #[])
  rw[g.dm];rfl,Eg g.up (Ki H)⟩
 refine(?_:qg ((t.put slot).1.orStandIn _) b);unfold SetTable.orStandIn;split;exact m;exact ij m _;exact ij g _
def y5{t E:SetTable}{b:Bool}(g:qg t b){H:Array Int}{n:Nat}{o:Array Nat}(h:t.relaid H n=some (E,o)):qg E b:=by unfold SetTable.relaid SetTable.laid at h;generalize SetTable.layClean (SetTable.sizeAbove n-1) H=q at h;induction q with
 |none=>exact nn h|some L=>obtain⟨rfl,D⟩:=dX (aN h);refine⟨g.led,rfl,?_⟩;refine(?_:Up (((List.range _).filterMap _).map _));rw[List.map_filterMap];refine List.Pairwise.filterMap _ (λ a Q C b U N i=> ?_) List.pairwise_lt_range;obtain⟨y,T,e⟩:=dR.mp U;obtain⟨G,f,M⟩:=dR.mp i;obtain⟨z,D,rfl⟩:=dR.mp T;obtain⟨v,D,rfl⟩:=dR.mp f;exact e▸M▸C
def vd{t:SetTable}{b:Bool}(g:qg t b)(es:Array (Int×Value))(n:Nat):qg (relayAll t es n).2.1 b:=by unfold relayAll;split;rename_i q;dsimp only;split;exact y5 g q;exact ij g _;exact ij g _
noncomputable def insI(xs:List Int)(k:Int):List Int:=if k∈xs then xs else xs++[k]
noncomputable abbrev inSet(xs:List Int)(k:Int):Bool:=decide (k∈xs)
structure ib(prog:Program)(w:World)(es:Array (Int×Value))(t:SetTable)(xs:List Int):Prop where
 el:ElemsOf (intKind prog w) es.toList
 mem:∀k,inSet xs k=true↔∃e∈es.toList,(intKind prog w).is k e.2=true
 fits:t.fits es.size=true
 n:es.size=xs.length
 nd:xs.Nodup
 tab:qg t (!w.params.followText "set-order")
 rg:∀k∈xs,0<=k/\k<1000
noncomputable abbrev qh(es:Array (Int×Value))(ep:Nat)(t:SetTable):Obj:={cls:= .type "set",dict:=none,data:= .set es ep t,slots:= #[]}
def mE(prog:Program)(w:World)(h:Heap)(a:Addr)(xs:List Int):Prop:=∃es ep t,h.get? a=some (qh es ep t)/\ib prog w es t xs
section
variable{prog:Program}{w:World}{A:Around}{E:Value->Shared->Prop}{s:Shared}
def Nw{xs:List Int}(nd:xs.Nodup)(rg:∀k∈xs,0<=k/\k<1000):xs.length<=1000:=by
 have h:=nd.length_le_of_subset (l₂:=(List.range 1000).map Int.ofNat) λ k u=>by obtain⟨n,rfl⟩:=Int.eq_ofNat_of_zero_le (rg k u).1;exact bV.mpr ⟨n,dY.mpr (oH.mp (rg _ u).2),rfl⟩
 rwa[a7,eB]at h
def ib.PS{es:Array (Int×Value)}{t:SetTable}{xs:List Int}(g:ib prog w es t xs):es.size<=1000:=g.n▸Nw g.nd g.rg
def wb{xs:List Int}(nd:xs.Nodup)(k:Int):(insI xs k).Nodup:=by unfold insI;split;exact nd;rename_i h;exact List.nodup_append.mpr ⟨nd,List.pairwise_singleton _ _,λ a C b U e=>h (by rw[<-bX.mp U,<-e];exact C)⟩
def w8{xs:List Int}{k j:Int}:j∈insI xs k↔j∈xs\/j=k:=by unfold insI;split;rename_i h;exact⟨.inl,λ q=>q.elim id λ e=>e▸h⟩;exact bK.trans (or_congr Iff.rfl bX)
def Gi{Q:Value->Shared->Prop}(h:∀o,o.isFreed=false->(∀h':Heap,h'.get? s.heap.objs.size=some o->mE prog w h' s.heap.objs.size [])->Q (.ref s.heap.objs.size) {s with heap:=s.heap.push o}):wpAny (model prog w) A (newSet (.type "set")) Q E s:=by unfold newSet setsByText;refine ag (ag (sU (ax ?_)));show wpAny _ _ (alloc _>>=λ a=>pure (Value.ref a)) _ _ _;exact ag (wpAny_alloc (ax (h _ rfl λ h' e=>⟨#[],0,_,e,λ e he=>(mn he),λ k=>⟨λ q=>absurd (ae q) ck,λ⟨e,he,_⟩=>mn he⟩,rfl,rfl,List.nodup_nil,⟨rfl,rfl,List.Pairwise.nil⟩,λ k u=>absurd u ck⟩)))
def ib.push{es N:Array (Int×Value)}{t t1:SetTable}{xs:List Int}{k:Int}{x:Value}(g:ib prog w es t xs)(u:(intKind prog w).is k x=true)(H:x.scannable=true)(Q:0<=k/\k<1000)(L:k∉xs)(p:List.Perm N.toList (es.toList++[((intKind prog w).hash k,x)]))(hf:t1.fits N.size=true)(I:qg t1 (!w.params.followText "set-order")):ib prog w N t1 (insI xs k)where
 el:=(g.el.push u H).perm p
 mem:=λ j=>by exact(show inSet (insI xs k) j=(inSet xs j||decide (j=k)) from(decide_eq_decide.mpr w8).trans (Bool.decide_or ..))▸mem_push_iff u g.mem p j
 fits:=hf
 n:=by rw[<-oI,p.length_eq,bH,oI,g.n];unfold insI;rw[au L,bH];rfl
 nd:=wb g.nd k
 tab:=I
 rg:=λ j l=>(w8.mp l).elim (g.rg j) λ e=>e▸Q
def ib.perm{es N:Array (Int×Value)}{t t1:SetTable}{xs:List Int}(g:ib prog w es t xs)(p:List.Perm N.toList es.toList)(hf:t1.fits N.size=true)(I:qg t1 (!w.params.followText "set-order")):ib prog w N t1 xs where
 el:=g.el.perm p
 mem:=λ j=>(g.mem j).trans ⟨λ⟨e,he,q⟩=>⟨e,p.mem_iff.mpr he,q⟩,λ⟨e,he,q⟩=>⟨e,p.mem_iff.mp he,q⟩⟩
 fits:=hf
 n:=by rw[<-oI,p.length_eq,oI,g.n]
 nd:=g.nd
 tab:=I
 rg:=g.rg
def s8{a:Addr}{es N:Array (Int×Value)}{t t1:SetTable}{ep:Nat}{xs:List Int}{Q:Unit->Shared->Prop}(e:s.heap.get? a=some (qh es ep t))(g:ib prog w N t1 xs)(h:∀h',Heap.SameBut a s.heap h'->h'.get? a=some (qh N (ep+1) t1)->Q () {s with heap:=h'}):wpAny (model prog w) A (storeSet a N t1) Q E s:=wpAny_storeSet_of e rfl (h _ (.update ..) (Heap.get?_update_self _ e rfl)) (fits_of_scanBound (bt g.PS dD))
def y6{b:Bool}{Q:Unit->Shared->Prop}(h:Q () s):wpAny (model prog w) A (match b with|true=>rule "set.scan.the-table-gave-way"|false=>pure ()) Q E s:=by induction b with
 |true=>exact wpAny_rule h|false=>exact ax h
noncomputable def putIn(a:Addr)(N:Array (Int×Value))(t1:SetTable)(s:Bool):Sem (Option Bool):=do
 storeSet a N t1
 if(!s&&t1.tooFull)=true then do
   (match(relayAll t1 N (SetTable.grown N.size)).2.2 with|true=>rule "set.scan.the-table-gave-way"|false=>pure ())
   storeSet a (relayAll t1 N (SetTable.grown N.size)).1 (relayAll t1 N (SetTable.grown N.size)).2.1
   pure (some true)
  else pure (some true)
def good_add{a:Addr}{xs:List Int}{k:Int}{t:Tok}{Q:Value->Shared->Prop}(i:mE prog w s.heap a xs)(o:0<=k/\k<1000)(h:∀h',Heap.SameBut a s.heap h'->mE prog w h' a (insI xs k)->Q .none {s with heap:=h',toks:=s.toks+1}):wpAny (model prog w) A (call (.builtin "set.add") [.ref a,.int k t]) Q E s:=by obtain⟨es,ep,c,e,g⟩:=i;have u:(intKind prog w).is k (.int k t)=true:=f9 k;have I:es.size<scanBound:=bt g.PS dD;refine lG F.slot_set_add ⟨_,e,rfl⟩ F.entry_set_add ?_ (F.args_set_add_2 _ _);show wpAny _ _ (setAdd a (.int k t)>>=λ D=>ret .none) _ _ _;unfold setAdd;refine ag (bB (ag ((intKind prog w).pyHash u ?_)));unfold setAddHashed setAddHashedIn;refine bB (ag (wpAny_setState_of e rfl g.fits ?_));dsimp only;rw[byScan_of rfl I g.el,ar rfl];unfold setAddByScan;refine ag (ag (wpAny_rule (ag (wpAny_setScan_of u e rfl g.fits g.el ?_))));cases l:List.findIdx? (λ e=>(intKind prog w).is k e.2) es.toList with
 |some j=>obtain⟨v,y,D⟩:=List.findIdx?_eq_some_iff_getElem.mp l;have H:k∈xs:=ae ((g.mem k).mpr ⟨es.toList[j],List.getElem_mem v,y⟩);refine ax (ax (ax ⟨.none,rfl,h s.heap (.refl ..) ?_⟩));unfold insI;exact ar H▸⟨es,ep,c,e,g⟩
 |none=>
  have H:k∉xs:=λ q=>by obtain⟨f,he,hp⟩:=(g.mem k).mp (af q);have:=List.findIdx?_eq_none_iff.mp l f he;rw[hp]at this;exact Bool.noConfusion this
  have p:=layNew_perm c es ((intKind prog w).hash k) (.int k t);rw[Array.toList_push]at p;have g1:=g.push u rfl o H p (layNew_fits c es _ _) (y4 g.tab es _ _);dsimp only;generalize layNew c es ((intKind prog w).hash k) (.int k t)=L at g1;obtain⟨N,t1,M,gv⟩:=L;dsimp only at g1⊢;have tail:wpAny (model prog w) A.in1 (putIn a N t1 M) (λ r s'=>r=some true/\∃h',s'={s with heap:=h',toks:=s.toks+1}/\Heap.SameBut a s.heap h'/\mE prog w h' a (insI xs k)) E {s with toks:=s.toks+1}:=by refine ag (s8 (s:={s with toks:=s.toks+1}) e g1 λ G C U=> ?_);split;have g2:=g1.perm (relayAll_perm t1 N (SetTable.grown N.size)) (relayAll_fits ..) (vd g1.tab ..);exact ag (y6 (ag (s8 (s:={s with heap:=G,toks:=s.toks+1}) U g2 λ m n d=>ax ⟨rfl,m,rfl,C.trans n,_,_,_,d,g2⟩)));exact ax ⟨rfl,G,rfl,C,_,_,_,U,g1⟩
  refine ag (y6 ?_);have fin:wpAny (model prog w) A.in1 (putIn a N t1 M) (λ r s'=>wpAny (model prog w) A.in1 (match r with|some added=>pure added|none=>setAddHashedIn a (.int k t) ((intKind prog w).hash k) 99999) (λ D T=>wpAny (model prog w) A.in1 (ret .none) (λ fin s'=>∃r,fin= .done (.ret r)/\Q r s') E T) E s') E {s with toks:=s.toks+1}:=
   aW tail (λ r s' ⟨U,h',d,hs,hg⟩=>by
    subst U d
    exact ax (ax ⟨.none,rfl,h h' hs hg⟩)) λ D D z=>z
  generalize t1.plain=b;induction b with
  |true=>show wpAny _ _ (hashByValue 8 (.int k t)>>=_) _ _ _;exact hashByValue_scannable 8 (x:= .int k t) rfl▸ag (ax fin)|false=>exact ag (ax fin)
end
noncomputable def Kj:List Str:=["lineno","instream","whitespace","pushback","read","_node2info","_ready_nodes","_npassedout","_nfinished"]
noncomputable def attrName(k:Nat):Str:=Kj.getD k "?"
def xc:∀i j:Fin 9,attrName i=attrName j->i=j:=by decide+kernel
structure Cx where
 prog:Program
 w:World
 K:Frag
 h₀:Heap
 os:OsState
 P:Addr
 ps:Array Value
 line:Nat
 col:Nat
 qual:Str
 u5:Nat->FuncData->Prop
noncomputable abbrev dM:=Value->Shared->Prop
noncomputable abbrev fA:=V->Mem->Prop
noncomputable abbrev aj:=List Nat
noncomputable abbrev aw:=List V
noncomputable abbrev aQ:=PySem.Expr
noncomputable abbrev cM:=PySem.Stmt
noncomputable abbrev aI:=List Value
noncomputable abbrev Cx.ay(J:Cx):Model:=model J.prog J.w
section
variable{J:Cx}{A:Around}{E:dM}{c:Vw}{s:Shared}{d:Nat}{Y:Mem}{env:Env}{Q:fA}{B:aw}{h:Heap}
def bL(c:Vw)(h:Heap):List (Nat×V)->List DictEntry->Prop
 |[],[]=>True|(k,v)::r,e::es=>k<9/\(∃t,e.key= .str (attrName k) t)/\aE c h v e.val/\bL c h r es
 |[],_::_=>False|_::_,[]=>False
def c6(c:Vw)(h:Heap):List (Int×V)->List (Int×Value)->Prop
 |[],[]=>True|(k,v)::r,(m,x)::es=>k=m/\aE c h v x/\c6 c h r es
 |[],_::_=>False|_::_,[]=>False
def bL.map{c G:Vw}{h h':Heap}(k:Tr c h G h'){as:List (Nat×V)}{es:List DictEntry}(r:bL c h as es):bL G h' as es:=by induction as generalizing es with
 |nil=>induction es using lC with
  |nil=>trivial|cons=>exact r.elim
 |cons a as z=>induction es using lC with
  |nil=>exact r.elim|cons=>exact⟨r.1,r.2.1,r.2.2.1.map k,z r.2.2.2⟩
def c6.ind{P:List (Int×V)->List (Int×Value)->Prop}(Q:P [] [])(M:∀k v vs x xs,aE c h v x->c6 c h vs xs->P vs xs->P ((k,v)::vs) ((k,x)::xs)){vs:List (Int×V)}{xs:List (Int×Value)}(r:c6 c h vs xs):P vs xs:=by induction vs generalizing xs with
 |nil=>induction xs using lC with
  |nil=>exact Q|cons=>exact r.elim
 |cons v vs z=>induction xs using lC with
  |nil=>exact r.elim|cons x xs=>obtain⟨k,v⟩:=v;obtain⟨m,x⟩:=x;exact(show k=m from r.1)▸M k v vs x xs r.2.1 r.2.2 (z r.2.2)
def c6.map{c G:Vw}{h h':Heap}(k:Tr c h G h'){as:List (Int×V)}{es:List (Int×Value)}(r:c6 c h as es):c6 G h' as es:=r.ind (P:=λ as es=>c6 G h' as es) trivial λ D D D D D r D z=>⟨rfl,r.map k,z⟩
def bL.carry{c G:Vw}{h h':Heap}(k:Carry c h G h'){as:List (Nat×V)}{es:List DictEntry}(r:bL c h as es):bL G h' as es:=r.map k.tr
def c6.carry{c G:Vw}{h h':Heap}(k:Carry c h G h'){as:List (Int×V)}{es:List (Int×Value)}(r:c6 c h as es):c6 G h' as es:=r.map k.tr
def j4(c:Vw)(h:Heap)(vs:aw)(L:Array (Option Value)):Prop:=∀(j:Nat) v,vs[j]? =some v->v= .aC\/∃x,(L[j]?).join=some x/\aE c h v x
structure CT(c:Vw)(h:Heap)(a:Addr)(vs:aw)(cls:List Addr)(fd:FuncData):Prop where
 fn:∃o,h.get? a=some o/\o.data= .func fd/\o.cls= .type "function"
 cells:∃xs,aA c h vs xs/\cls.length=xs.length/\∀(j:Nat) b x,cls[j]? =some b->xs[j]? =some x->∃o,h.get? b=some o/\o.data= .cell (some x)
 names:fd.closure.map (·.2)=cls
def dU(J:Cx)(c:Vw)(h:Heap)(a:Addr)(fp:List Addr):O->Prop
 | .dead=>True| .list vs=>fp=[a]/\∃g,SeqAt h "list" a g/\aA c h vs g
 | .dict bJ ep=>fp=[a]/\∃s,h.DictAt (intKind J.prog J.w) a s ep/\c6 c h bJ s| .set xs=>fp=[a]/\h.SetOf (intKind J.prog J.w) a (λ k=>decide (k∈xs)) xs.length/\xs.Nodup
 | .inst C as=>∃d es ep,fp=[a,d]/\a≠d/\h.get? a=some (instObj C d)/\h.get? d=some (dictOf es ep)/\bL c h as es| .node C vs=>∃d L,fp=[a,d]/\a≠d/\h.get? a=some {cls:= .ref C,dict:=some d,data:= .plain,slots:=L}/\h.get? d=some emptyDict/\j4 c h vs L
 | .u5 k vs=>fp=[a]/\∃cls x,CT c h a vs cls x/\(∀b∈cls,b∈c.x)/\J.u5 k x/\∃G,G∈c.x/\x.code= .ref G/\h.CodeRec x.code x.qualname| .dZ fn f=>fp=[a]/\∃q t,h.get? a=some {cls:= .type "callable_iterator",data:= .fields #[.ref q,.str Str.empty t,.bool false]}/\q∈c.x/\∃self,h.get? q=some (methodObj (.ref fn) self)/\aE c h f self
 | .rN=>fp=[a]/\h.get? a=some {cls:= .type "callable_iterator",data:= .fields #[.none,.none,.bool true]}| .yQ l i=>∃d,fp=[a,d]/\a≠d/\l<c.Y.n/\h.get? a=some {cls:= .type "method-wrapper",data:= .fields #[.builtin "list_iterator.__next__",.ref d]}/\h.IsListIter d (c.ρ l) i
 | .w7 xs=>fp=[a]/\mE J.prog J.w h a xs
def Tab(J:Cx)(x:List Addr)(h:Heap):Prop:=h.get? J.P=some {cls:= .none,data:= .fields J.ps}\/∃G,G∈x/\h.get? J.P=some {cls:= .none,data:= .fields (J.ps++ #[rawInt J.line,rawInt J.col,.ref G])}/\h.CodeRec (.ref G) J.qual
structure Rel(J:Cx)(c:Vw)(s:Shared):Prop where
 base:∀b o,J.h₀.get? b=some o->b≠J.P->s.heap.get? b=some o
 tab:Tab J c.x s.heap
 lT:∃o,J.h₀.get? J.P=some o/\o.cls= .none
 size:J.h₀.objs.size<=s.heap.objs.size
 obj:∀i,i<c.Y.n->dU J c s.heap (c.ρ i) (c.fp i) (c.Y.f i)
 apart:∀i j,c.live i->c.live j->i≠j->∀b∈c.fp i,b∉c.fp j
 high:∀b,c.T b->J.h₀.objs.size<=b/\b<s.heap.objs.size
 oD:∀b∈c.x,J.h₀.objs.size<=b/\(∃o,s.heap.get? b=some o)/\¬c.T b
 d5:∀b∈c.y,J.h₀.objs.size<=b/\b<s.heap.objs.size/\¬c.T b/\b∉c.x
 d6:∀b∈c.z,J.h₀.objs.size<=b/\(∃o,s.heap.get? b=some o/\∀vs,o.data≠.fields vs)/\¬c.T b/\b∉c.x/\b∉c.y
 gens:s.gens= #[]
 os:s.os=J.os
structure Step(J:Cx)(c:Vw)(s:Shared)(c':Vw)(s':Shared)(W:Addr->Prop):Prop where
 rel:Rel J c' s'
 carry:Carry c s.heap c' s'.heap
 x:∀b∈c.x,b∈c'.x
 ta:∀b∈c'.x,b∈c.x\/s.heap.objs.size<=b
 y:∀b∈c.y,b∈c'.y
 z:∀b∈c.z,b∈c'.z
 qi:∀b∈c'.z,b∈c.z\/s.heap.objs.size<=b
 kept:∀b o,s.heap.get? b=some o->¬c.T b->¬W b->b≠J.P->b∉c.z->s'.heap.get? b=some o
 j5:∀b o,s.heap.get? b=some o->b∈c.z->¬W b->∃sl,s'.heap.get? b=some {o with slots:=sl}
 size:s.heap.objs.size<=s'.heap.objs.size
abbrev cN:Addr->Prop:=λ D=>False
def Step.refl{W:Addr->Prop}(R:Rel J c s):Step J c s c s W:=⟨R,.refl ..,λ D h=>h,λ D h=> .inl h,λ D h=>h,λ D h=>h,λ D h=> .inl h,λ D D e D D D D=>e,λ D o e D D=>⟨o.slots,e⟩,ah _⟩
def Step.trans{c G j:Vw}{s s' w:Shared}{W:Addr->Prop}(x:Step J c s G s' W)(y:Step J G s' j w W):Step J c s j w W where
 rel:=y.rel
 carry:=x.carry.trans y.carry x.size
 x:=λ b h=>y.x b (x.x b h)
 ta:=λ b h=>by rcases y.ta b h with h|h;exact x.ta b h;exact .inr (aa x.size h)
 y:=λ b h=>y.y b (x.y b h)
 z:=λ b h=>y.z b (x.z b h)
 qi:=λ b h=>by rcases y.qi b h with h|h;exact x.qi b h;exact .inr (aa x.size h)
 kept:=λ b o e nt E np l=>y.kept b o (x.kept b o e nt E np l) (λ t=>nt (x.carry.old b (b6 e) t)) E np λ h=>by rcases x.qi b h with h|h;exact l h;exact aD h (b6 e)
 j5:=λ b o e U E=>by obtain⟨L,a⟩:=x.j5 b o e U E;obtain⟨n,d⟩:=y.j5 b _ a (x.z b U) E;exact⟨n,d⟩
 size:=aa x.size y.size
def Step.mono{c G:Vw}{s s':Shared}{W W':Addr->Prop}(x:Step J c s G s' W)(h:∀b,W b->W' b):Step J c s G s' W':=⟨x.rel,x.carry,x.x,x.ta,x.y,x.z,x.qi,λ b o e nt z np l=>x.kept b o e nt (λ q=>z (h b q)) np l,λ b o e U z=>x.j5 b o e U (λ q=>z (h b q)),x.size⟩
def Step.bC{c G:Vw}{s s':Shared}{W:Addr->Prop}(x:Step J c s G s' cN):Step J c s G s' W:=x.mono λ D h=>h.elim
def Step.there{c G:Vw}{s s':Shared}{W:Addr->Prop}(x:Step J c s G s' W){b:Addr}{o:Obj}(e:s.heap.get? b=some o)(nt:¬c.T b)(z:¬W b)(np:b≠J.P):∃L,s'.heap.get? b=some {o with slots:=L}:=by by_cases h:b∈c.z;exact x.j5 b o e h z;exact⟨o.slots,x.kept b o e nt z np h⟩
def CT.map{c G:Vw}{h h':Heap}{a:Addr}{vs:aw}{cls:List Addr}{s:FuncData}(k:Tr c h G h')(y:∀o,h.get? a=some o->h'.get? a=some o)(w:∀b∈cls,∀o,h.get? b=some o->h'.get? b=some o)(C:CT c h a vs cls s):CT G h' a vs cls s where
 fn:=let⟨o,e,z⟩:=C.fn;⟨o,y o e,z⟩
 cells:=let⟨xs,v,I,q⟩:=C.cells;⟨xs,v.map k,I,λ j b x U L=>let⟨o,e,z⟩:=q j b x U L;⟨o,w b (nr U) o e,z⟩⟩
 names:=C.names
def CodeRec.map{h h':Heap}{v:Value}{q:Str}{c₁:Addr}(n:v= .ref c₁)(w:∀o,h.get? c₁=some o->h'.get? c₁=some o)(r:h.CodeRec v q):h'.CodeRec v q:=by obtain⟨c₂,p,s,i,L,U,H⟩:=r;rw[n]at L;obtain rfl:=sV L;exact⟨_,p,s,i,n,w _ U,H⟩
def dU.map{c G:Vw}{h h':Heap}{a:Addr}{fp:List Addr}{o:O}(k:Tr c h G h')(L:∀b∈c.x,b∈G.x/\∀o,h.get? b=some o->h'.get? b=some o)(hf:∀b∈fp,∀o,h.get? b=some o->h'.get? b=some o)(r:dU J c h a fp o):dU J G h' a fp o:=by induction o with
 |dead=>trivial|list vs=>obtain⟨rfl,m,⟨n,e⟩,v⟩:=r;exact⟨rfl,m,⟨n,hf a (.head _) _ e⟩,v.map k⟩
 |dict bJ ep=>obtain⟨rfl,N,d,v⟩:=r;exact⟨rfl,N,d.at (hf a (.head _)),v.map k⟩
 |set xs=>obtain⟨rfl,⟨o,es,ep,t,e,z⟩,nd⟩:=r;exact⟨rfl,⟨o,es,ep,t,hf a (.head _) o e,z⟩,nd⟩
 |inst C as=>obtain⟨d,es,ep,rfl,ne,u,Q,v⟩:=r;exact⟨d,es,ep,rfl,ne,hf a (.head _) _ u,hf d (.tail _ (.head _)) _ Q,v.map k⟩
 |node C vs=>obtain⟨d,H,rfl,ne,e,Q,v⟩:=r;exact⟨d,H,rfl,ne,hf a (.head _) _ e,hf d (.tail _ (.head _)) _ Q,λ j w A=>(v j w A).imp id λ⟨x,y,q⟩=>⟨x,y,q.map k⟩⟩
 |u5 n vs=>obtain⟨rfl,cls,E,C,p,hp,c₁,T,s,r⟩:=r;exact⟨rfl,cls,E,C.map k (hf a (.head _)) λ b U=>(L b (p b U)).2,λ b U=>(L b (p b U)).1,hp,c₁,(L c₁ T).1,s,CodeRec.map s (L c₁ T).2 r⟩
 |dZ fn f=>obtain⟨rfl,q,t,e,M,self,Q,v⟩:=r;exact⟨rfl,q,t,hf a (.head _) _ e,(L q M).1,self,(L q M).2 _ Q,v.map k⟩
 |rN=>obtain⟨rfl,e⟩:=r;exact⟨rfl,hf a (.head _) _ e⟩
 |yQ l i=>obtain⟨d,rfl,ne,I,e,o,eo,zz⟩:=r;exact⟨d,rfl,ne,ai I k.n,hf a (.head _) _ e,o,hf d (.tail _ (.head _)) _ eo,by exact k.ρ l I▸zz⟩
 |w7 xs=>obtain⟨rfl,es,ep,t,e,g⟩:=r;exact⟨rfl,es,ep,t,hf a (.head _) _ e,g⟩
def dU.carry{c G:Vw}{h h':Heap}{a:Addr}{fp:List Addr}{o:O}(k:Carry c h G h')(L:∀b∈c.x,b∈G.x/\∀o,h.get? b=some o->h'.get? b=some o)(hf:∀b∈fp,∀o,h.get? b=some o->h'.get? b=some o)(r:dU J c h a fp o):dU J G h' a fp o:=r.map k.tr L hf
def Tab.carry{x z:List Addr}{h h':Heap}(t:Tab J x h)(hp:∀o,h.get? J.P=some o->h'.get? J.P=some o)(L:∀b∈x,b∈z/\∀o,h.get? b=some o->h'.get? b=some o):Tab J z h':=t.imp (hp _) λ⟨G,w,e,r⟩=>⟨G,(L G w).1,hp _ e,CodeRec.map rfl (L G w).2 r⟩
def Rel.dH{i:Nat}(h:c.live i){b:Addr}(U:b∈c.fp i):c.T b:=⟨i,h,U⟩
def Rel.Bf{s s':Shared}(R:Rel J c s)(W:Addr->Prop)(u:∀b o,s.heap.get? b=some o->¬W b->s'.heap.get? b=some o)(M:∀b,W b->J.h₀.objs.size<=b/\¬c.T b/\b∉c.x/\(b∈c.y\/b∈c.z))(N:∀b∈c.z,W b->∃o,s'.heap.get? b=some o/\∀vs,o.data≠.fields vs)(H:s.heap.objs.size<=s'.heap.objs.size)(G:s'.gens=s.gens)(m:s'.os=s.os):Step J c s c s' W:=by
 have low:∀b,b<J.h₀.objs.size->¬W b:=λ b U q=>aD (M b q).1 U;have y:Carry c s.heap c s'.heap:=⟨ah _,λ D D=>rfl,λ D D=>rfl,λ D D t=>t,λ D D t=>t,λ b o e nt w=>u b o e λ q=>nt (.inr (M b q).2.2.2)⟩;have L:∀b∈c.x,b∈c.x/\∀o,s.heap.get? b=some o->s'.heap.get? b=some o:=λ b U=>⟨U,λ o e=>u b o e λ q=>(M b q).2.2.1 U⟩;obtain⟨p,eP,D⟩:=R.lT;refine⟨⟨λ b o e np=>u b o (R.base b o e np) (low b (b6 e)),R.tab.carry (λ o e=>u _ o e (low _ (b6 eP))) L,R.lT,aa R.size H,λ i hi=> ?_,R.apart,λ b t=>⟨(R.high b t).1,ai (R.high b t).2 H⟩,λ b U=>⟨(R.oD b U).1,?_,(R.oD b U).2.2⟩,λ b U=>⟨(R.d5 b U).1,ai (R.d5 b U).2.1 H,(R.d5 b U).2.2⟩,λ b U=>⟨(R.d6 b U).1,?_,(R.d6 b U).2.2⟩,G.trans R.gens,m.trans R.os⟩,y,λ D h=>h,λ D h=> .inl h,λ D h=>h,λ D h=>h,λ D h=> .inl h,λ b o e D z D D=>u b o e z,λ b o e D z=>⟨o.slots,u b o e z⟩,H⟩;cases hd:c.Y.f i with
 |dead=>trivial|_=>have a:c.live i:=⟨hi,by refine hd.symm▸?_;exact od⟩;exact hd▸(R.obj i hi).carry y L λ b U o e=>u b o e λ q=>(M b q).2.1 (Rel.dH a U)
 obtain⟨o,e⟩:=(R.oD b U).2.1;exact⟨o,(L b U).2 o e⟩;by_cases q:W b;exact N b U q;obtain⟨o,e,hd⟩:=(R.d6 b U).2.1;exact⟨o,u b o e q,hd⟩
def Rel.other{s s':Shared}(R:Rel J c s)(W:Addr->Prop)(u:∀b o,s.heap.get? b=some o->¬W b->s'.heap.get? b=some o)(M:∀b,W b->J.h₀.objs.size<=b/\¬c.T b/\b∉c.x/\b∈c.y)(H:s.heap.objs.size<=s'.heap.objs.size)(U:s'.gens=s.gens)(m:s'.os=s.os):Step J c s c s' W:=R.Bf W u (λ b q=>⟨(M b q).1,(M b q).2.1,(M b q).2.2.1,.inl (M b q).2.2.2⟩) (λ b N q=>absurd (M b q).2.2.2 (R.d6 b N).2.2.2.2) H U m
noncomputable def Vw.set(c:Vw)(i:Nat)(o:O):Vw:={c with Y:=c.Y.set i o}
def Vw.oL{i:Nat}{o:O}(hi:c.live i){j:Nat}(h:(c.set i o).live j):c.live j:=by refine⟨h.1,λ q=> ?_⟩;by_cases e:j=i;subst e;exact hi.2 q;exact h.2 (by refine(?_:(if j=i then o else c.Y.f j)=_);exact au e▸q)
def Vw.wc{i:Nat}{o:O}(hi:c.live i){b:Addr}(t:(c.set i o).T b):c.T b:=by obtain⟨j,l,U⟩:=t;exact⟨j,Vw.oL hi l,U⟩
def Rel.upd{s s':Shared}(R:Rel J c s){i:Nat}(hi:c.live i)(o:O)(u:∀b A,s.heap.get? b=some A->b∉c.fp i->s'.heap.get? b=some A)(H:s.heap.objs.size<=s'.heap.objs.size)(M:s'.gens=s.gens)(m:s'.os=s.os)(new:Carry c s.heap (c.set i o) s'.heap->dU J (c.set i o) s'.heap (c.ρ i) (c.fp i) o):Step J c s (c.set i o) s' cN:=by
 have low:∀b,b<J.h₀.objs.size->b∉c.fp i:=λ b U q=>aD (R.high b (Rel.dH hi q)).1 U;have y:Carry c s.heap (c.set i o) s'.heap:=⟨ah _,λ D D=>rfl,λ D D=>rfl,λ D D t=>Vw.wc hi t,λ D D t=>t.imp (Vw.wc hi) id,λ b A e nt D=>u b A e λ q=>nt (.inl (Rel.dH hi q))⟩;have L:∀b∈c.x,b∈(c.set i o).x/\∀A,s.heap.get? b=some A->s'.heap.get? b=some A:=λ b U=>⟨U,λ A e=>u b A e λ q=>(R.oD b U).2.2 (Rel.dH hi q)⟩;obtain⟨p,eP,D⟩:=R.lT;refine⟨⟨λ b A e np=>u b A (R.base b A e np) (low b (b6 e)),R.tab.carry (λ A e=>u _ A e (low _ (b6 eP))) L,R.lT,aa R.size H,λ j l=> ?_,λ j k l E=>R.apart j k (Vw.oL hi l) (Vw.oL hi E),λ b t=> ?_,λ b U=>⟨(R.oD b U).1,?_,λ t=>(R.oD b U).2.2 (Vw.wc hi t)⟩,λ b U=>⟨(R.d5 b U).1,ai (R.d5 b U).2.1 H,λ t=>(R.d5 b U).2.2.1 (Vw.wc hi t),(R.d5 b U).2.2.2⟩,λ b U=>⟨(R.d6 b U).1,?_,λ t=>(R.d6 b U).2.2.1 (Vw.wc hi t),(R.d6 b U).2.2.2⟩,M.trans R.gens,m.trans R.os⟩,y,λ D h=>h,λ D h=> .inl h,λ D h=>h,λ D h=>h,λ D h=> .inl h,λ b A e nt D D D=>u b A e λ q=>nt (Rel.dH hi q),λ b A e N D=>⟨A.slots,u b A e λ q=>(R.d6 b N).2.2.1 (Rel.dH hi q)⟩,H⟩;refine(?_:dU J (c.set i o) s'.heap (c.ρ j) (c.fp j) (if j=i then o else c.Y.f j));by_cases e:j=i;subst e;exact ar rfl▸new y;refine(au e).symm▸?_;cases hd:c.Y.f j with
 |dead=>trivial|_=>have a:c.live j:=⟨l,by refine hd.symm▸?_;exact od⟩;exact hd▸(R.obj j l).carry y L λ b U A d=>u b A d λ q=>R.apart j i a hi e b U q
 have:=R.high b (Vw.wc hi t);exact⟨this.1,ai this.2 H⟩;obtain⟨A,e⟩:=(R.oD b U).2.1;exact⟨A,(L b U).2 A e⟩;obtain⟨A,e,hd⟩:=(R.d6 b U).2.1;exact⟨A,u b A e λ q=>(R.d6 b U).2.2.1 (Rel.dH hi q),hd⟩
noncomputable def Vw.new(c:Vw)(a:Addr)(fp:List Addr)(x:List Addr)(o:O):Vw:={ρ:=λ i=>if i=c.Y.n then a else c.ρ i,fp:=λ i=>if i=c.Y.n then fp else c.fp i,x:=x++c.x,y:=c.y,z:=c.z,Y:=c.Y.alloc o}
def Vw.we{a:Addr}{fp x:List Addr}{o:O}{b:Addr}(t:(c.new a fp x o).T b):c.T b\/b∈fp:=by
 obtain⟨j,⟨l,hd⟩,U⟩:=t;by_cases e:j=c.Y.n
 right
 have:(c.new a fp x o).fp j=fp:=ar e;rw[this]at U;exact U
 left
 have M:(c.new a fp x o).fp j=c.fp j:=au e;have N:(c.new a fp x o).Y.f j=c.Y.f j:=au e;rw[M]at U;rw[N]at hd;exact⟨j,⟨oG (iG l) e,hd⟩,U⟩
def q5(R:Rel J c s){b:Addr}(h:J.h₀.objs.size<=b):b≠J.P:=by obtain⟨o,e,D⟩:=R.lT;exact λ q=>aD h (q▸b6 e)
def Rel.Qj{s s':Shared}(R:Rel J c s)(a:Addr)(fp x:List Addr)(o:O)(u:∀b A,b≠J.P->s.heap.get? b=some A->s'.heap.get? b=some A)(E:Tab J (x++c.x) s'.heap)(C:s.heap.objs.size<=s'.heap.objs.size)(f:s'.gens=s.gens)(m:s'.os=s.os)(M:∀b∈fp,s.heap.objs.size<=b/\b<s'.heap.objs.size)(G:∀b∈x,s.heap.objs.size<=b/\b∉fp/\∃A,s'.heap.get? b=some A)(new:Carry c s.heap (c.new a fp x o) s'.heap->dU J (c.new a fp x o) s'.heap a fp o):Step J c s (c.new a fp x o) s' cN:=by
 have H:∀b,J.h₀.objs.size<=b->b≠J.P:=λ b h=>q5 R h;have g:∀A,s.heap.get? J.P=some A->A.cls= .none:=λ A e=>by rcases R.tab with q|⟨D,D,q,D⟩<;>(rw[q]at e;obtain rfl:=aN e;rfl)
 have y:Carry c s.heap (c.new a fp x o) s'.heap:=by
  have old:∀b,b<s.heap.objs.size->(c.new a fp x o).T b->c.T b:=λ b U t=>by rcases Vw.we t with t|t;exact t;exact absurd U (aD (M b t).1)
  exact⟨bR _,λ i hi=>au (az hi),λ i hi=>au (az hi),old,λ b U t=>t.imp (old b U) id,λ b A e D w=>u b A (λ q=>by rw[g A (q▸e)]at w;exact w.elim (λ h=>Kg h) λ h=>Kg h) e⟩
 have z:∀b∈c.x,b∈(c.new a fp x o).x/\∀A,s.heap.get? b=some A->s'.heap.get? b=some A:=λ b U=>⟨bK.mpr (.inr U),λ A e=>u b A (H b (R.oD b U).1) e⟩;refine⟨⟨λ b A e np=>u b A np (R.base b A e np),E,R.lT,aa R.size C,λ j l=> ?_,λ i j hi l ne b U k=> ?_,λ b t=> ?_,λ b U=> ?_,λ b U=>⟨(R.d5 b U).1,ai (R.d5 b U).2.1 C,λ t=> ?_,λ q=> ?_⟩,λ b U=>⟨(R.d6 b U).1,?_,λ t=> ?_,λ q=> ?_,(R.d6 b U).2.2.2.2⟩,f.trans R.gens,m.trans R.os⟩,y,λ b h=>(z b h).1,λ b h=> ?_,λ D h=>h,λ D h=>h,λ D h=> .inl h,λ b A e D D np D=>u b A np e,λ b A e n D=>⟨A.slots,u b A (H b (R.d6 b n).1) e⟩,C⟩;by_cases e:j=c.Y.n;subst e;have I:(c.new a fp x o).ρ c.Y.n=a:=ar rfl;have N:(c.new a fp x o).fp c.Y.n=fp:=ar rfl;have d:(c.new a fp x o).Y.f c.Y.n=o:=ar rfl;refine I.symm▸N.symm▸d.symm▸?_;exact new y;have I:(c.new a fp x o).ρ j=c.ρ j:=au e;have N:(c.new a fp x o).fp j=c.fp j:=au e;have d:(c.new a fp x o).Y.f j=c.Y.f j:=au e;refine I.symm▸N.symm▸d.symm▸?_;have r:=oG (iG l) e;by_cases hd:c.Y.f j= .dead;refine hd.symm▸?_;trivial;exact(R.obj j r).carry y z λ b U A Q=>u b A (H b (R.high b (Rel.dH ⟨r,hd⟩ U)).1) Q;have fresh:∀{j:Nat},(c.new a fp x o).live j->j≠c.Y.n->c.live j:=λ{j} l e=>by refine⟨oG (iG l.1) e,?_⟩;have d:(c.new a fp x o).Y.f j=c.Y.f j:=au e;exact d▸l.2
 by_cases e:i=c.Y.n;by_cases L:j=c.Y.n;exact ne (e.trans L.symm);have I:(c.new a fp x o).fp i=fp:=ar e;have N:(c.new a fp x o).fp j=c.fp j:=au L;rw[I]at U;rw[N]at k;exact aD (M b U).1 (R.high b (Rel.dH (fresh l L) k)).2;have I:(c.new a fp x o).fp i=c.fp i:=au e;rw[I]at U;by_cases L:j=c.Y.n;have N:(c.new a fp x o).fp j=fp:=ar L;rw[N]at k;exact aD (M b k).1 (R.high b (Rel.dH (fresh hi e) U)).2;have N:(c.new a fp x o).fp j=c.fp j:=au L;rw[N]at k;exact R.apart i j (fresh hi e) (fresh l L) ne b U k;rcases Vw.we t with t|t;exact⟨(R.high b t).1,ai (R.high b t).2 C⟩;exact⟨aa R.size (M b t).1,(M b t).2⟩;rcases bK.mp U with U|U;refine⟨aa R.size (G b U).1,(G b U).2.2,λ t=> ?_⟩;rcases Vw.we t with t|t;exact aD (G b U).1 (R.high b t).2;exact(G b U).2.1 t;obtain⟨A,e⟩:=(R.oD b U).2.1;refine⟨(R.oD b U).1,⟨A,u b A (H b (R.oD b U).1) e⟩,λ t=> ?_⟩;rcases Vw.we t with t|t;exact(R.oD b U).2.2 t;exact aD (M b t).1 (b6 e);rcases Vw.we t with t|t;exact(R.d5 b U).2.2.1 t;exact aD (M b t).1 (R.d5 b U).2.1;rcases bK.mp q with q|q;exact aD (G b q).1 (R.d5 b U).2.1;exact(R.d5 b U).2.2.2 q;obtain⟨A,e,hd⟩:=(R.d6 b U).2.1;exact⟨A,u b A (H b (R.d6 b U).1) e,hd⟩;obtain⟨A,e,hd⟩:=(R.d6 b U).2.1;rcases Vw.we t with t|t;exact(R.d6 b U).2.2.1 t;exact aD (M b t).1 (b6 e);obtain⟨A,e,hd⟩:=(R.d6 b U).2.1;rcases bK.mp q with q|q;exact aD (G b q).1 (b6 e);exact(R.d6 b U).2.2.2.1 q;rcases bK.mp h with h|h;exact .inr (G b h).1;exact .inl h
def Rel.new{s s':Shared}(R:Rel J c s)(a:Addr)(fp x:List Addr)(o:O)(u:∀b A,s.heap.get? b=some A->s'.heap.get? b=some A)(H:s.heap.objs.size<=s'.heap.objs.size)(U:s'.gens=s.gens)(m:s'.os=s.os)(h:∀b∈fp,s.heap.objs.size<=b/\b<s'.heap.objs.size)(G:∀b∈x,s.heap.objs.size<=b/\b∉fp/\∃A,s'.heap.get? b=some A)(new:Carry c s.heap (c.new a fp x o) s'.heap->dU J (c.new a fp x o) s'.heap a fp o):Step J c s (c.new a fp x o) s' cN:=R.Qj a fp x o (λ b A D e=>u b A e) (R.tab.carry (λ A e=>u _ A e) λ b M=>⟨sW _ M,λ A e=>u b A e⟩) H U m h G new
noncomputable def Vw.nA(c:Vw)(ys zs:List Addr):Vw:={c with y:=ys++c.y,z:=zs++c.z}
noncomputable def Vw.rO(c:Vw)(ys:List Addr):Vw:={c with y:=ys++c.y}
def Rel.y7{s s':Shared}(R:Rel J c s)(ys zs:List Addr)(u:∀b j,s.heap.get? b=some j->s'.heap.get? b=some j)(H:s.heap.objs.size<=s'.heap.objs.size)(N:s'.gens=s.gens)(m:s'.os=s.os)(A:∀b∈ys,s.heap.objs.size<=b/\b<s'.heap.objs.size)(M:∀b∈zs,s.heap.objs.size<=b/\b∉ys/\∃o,s'.heap.get? b=some o/\∀vs,o.data≠.fields vs):Step J c s (c.nA ys zs) s' cN:=by
 have S:=R.other cN (s':=s') (λ b o e D=>u b o e) (λ D h=>h.elim) H N m;have T:∀b,(c.nA ys zs).T b->c.T b:=λ b t=>t;have L:∀b∈c.x,b∈(c.nA ys zs).x/\∀o,s'.heap.get? b=some o->s'.heap.get? b=some o:=λ b U=>⟨U,λ D e=>e⟩;have y:Carry c s.heap (c.nA ys zs) s'.heap:=⟨ah _,λ D D=>rfl,λ D D=>rfl,λ b D t=>T b t,λ b U t=>by
  rcases t with t|t|t
  ·exact .inl (T b t)
  ·rcases bK.mp t with t|t
   ·exact absurd U (aD (A b t).1)
   ·exact .inr (.inl t)
  ·rcases bK.mp t with t|t
   ·exact absurd U (aD (M b t).1)
   ·exact .inr (.inr t),λ b o e D D=>u b o e⟩
 refine⟨⟨S.rel.base,S.rel.tab,R.lT,S.rel.size,λ i hi=> ?_,R.apart,S.rel.high,S.rel.oD,λ b U=> ?_,λ b U=> ?_,S.rel.gens,S.rel.os⟩,y,λ D h=>h,λ D h=> .inl h,λ b h=>bK.mpr (.inr h),λ b h=>bK.mpr (.inr h),λ b h=> ?_,λ b o e D D D D=>u b o e,λ b o e D D=>⟨o.slots,u b o e⟩,H⟩;exact(R.obj i hi).carry y (λ b U=>⟨U,λ o e=>u b o e⟩) λ b D o e=>u b o e;rcases bK.mp U with U|U;refine⟨aa R.size (A b U).1,(A b U).2,λ t=>aD (A b U).1 (R.high b t).2,λ q=> ?_⟩;obtain⟨o,e⟩:=(R.oD b q).2.1;exact aD (A b U).1 (b6 e);exact S.rel.d5 b U;rcases bK.mp U with U|U;refine⟨aa R.size (M b U).1,(M b U).2.2,λ t=>aD (M b U).1 (R.high b t).2,λ q=> ?_,λ q=> ?_⟩;obtain⟨o,e⟩:=(R.oD b q).2.1;exact aD (M b U).1 (b6 e);rcases bK.mp q with q|q;exact(M b U).2.1 q;exact aD (M b U).1 (R.d5 b q).2.1;obtain⟨o,e,hd⟩:=(R.d6 b U).2.1;refine⟨(R.d6 b U).1,⟨o,u b o e,hd⟩,(R.d6 b U).2.2.1,(R.d6 b U).2.2.2.1,λ q=> ?_⟩;rcases bK.mp q with q|q;exact aD (A b q).1 (b6 e);exact(R.d6 b U).2.2.2.2 q;rcases bK.mp h with h|h;exact .inr (M b h).1;exact .inl h
def Rel.xd{s s':Shared}(R:Rel J c s)(ys:List Addr)(u:∀b A,s.heap.get? b=some A->s'.heap.get? b=some A)(H:s.heap.objs.size<=s'.heap.objs.size)(U:s'.gens=s.gens)(m:s'.os=s.os)(T:∀b∈ys,s.heap.objs.size<=b/\b<s'.heap.objs.size):Step J c s (c.rO ys) s' cN:=R.y7 ys [] u H U m T (λ b M=>by exact absurd M ck)
def Rel.slots{s s':Shared}(R:Rel J c s)(u:∀b o,s.heap.get? b=some o->b∉c.z->s'.heap.get? b=some o)(M:∀b o,s.heap.get? b=some o->b∈c.z->∃C,s'.heap.get? b=some {o with slots:=C})(H:s.heap.objs.size<=s'.heap.objs.size)(N:s'.gens=s.gens)(m:s'.os=s.os):Step J c s c s' cN:=by
 have l:∀b,b<J.h₀.objs.size->b∉c.z:=λ b U q=>aD (R.d6 b q).1 U;have y:Carry c s.heap c s'.heap:=⟨ah _,λ D D=>rfl,λ D D=>rfl,λ D D t=>t,λ D D t=>t,λ b o e nt w=>u b o e λ q=>nt (.inr (.inr q))⟩;have L:∀b∈c.x,b∈c.x/\∀o,s.heap.get? b=some o->s'.heap.get? b=some o:=λ b U=>⟨U,λ o e=>u b o e λ q=>(R.d6 b q).2.2.2.1 U⟩;obtain⟨p,eP,D⟩:=R.lT;refine⟨⟨λ b o e np=>u b o (R.base b o e np) (l b (b6 e)),R.tab.carry (λ o e=>u _ o e (l _ (b6 eP))) L,R.lT,aa R.size H,λ i hi=> ?_,R.apart,λ b t=>⟨(R.high b t).1,ai (R.high b t).2 H⟩,λ b U=>⟨(R.oD b U).1,?_,(R.oD b U).2.2⟩,λ b U=>⟨(R.d5 b U).1,ai (R.d5 b U).2.1 H,(R.d5 b U).2.2⟩,λ b U=>⟨(R.d6 b U).1,?_,(R.d6 b U).2.2⟩,N.trans R.gens,m.trans R.os⟩,y,λ D h=>h,λ D h=> .inl h,λ D h=>h,λ D h=>h,λ D h=> .inl h,λ b o e D D D q=>u b o e q,λ b o e q D=>M b o e q,H⟩;cases hd:c.Y.f i with
 |dead=>trivial|_=>have a:c.live i:=⟨hi,by refine hd.symm▸?_;exact od⟩;exact hd▸(R.obj i hi).carry y L λ b U o e=>u b o e λ q=>(R.d6 b q).2.2.1 (Rel.dH a U)
 obtain⟨o,e⟩:=(R.oD b U).2.1;exact⟨o,(L b U).2 o e⟩;obtain⟨o,e,hd⟩:=(R.d6 b U).2.1;obtain⟨C,G⟩:=M b o e U;exact⟨_,G,hd⟩
def jK(d:Nat)(A:Around):Prop:=A.handled=none/\A.depth+8*d<800/\A.units+60*d<9000
def sr{u k m d b:Nat}(h:u+k*(d+1)<b)(hm:m<=k):u+m+k*d<b:=by refine bt ?_ h;rw[Nat.mul_succ,fC,eO m];exact mY (mY hm _) u
def CU{u k b d a:Nat}(h:u+k*d<b)(hd:a<=d):u+k*a<b:=bt (mY (iH k hd) u) h
def jK.le{d a:Nat}(h:jK d A)(hd:a<=d):jK a A:=⟨h.1,CU h.2.1 hd,CU h.2.2 hd⟩
def jK.in1(h:jK (d+1) A):jK d A.in1:=⟨h.1,sr (m:=0) h.2.1 dD,sr (m:=1) h.2.2 dD⟩
def jK.deeper(h:jK (d+1) A)(env:Env):jK d (A.deeper env):=⟨h.1,sr (m:=1) h.2.1 dD,sr (m:=3) h.2.2 dD⟩
def gc(env:Env)(h:Heap)(x:Str)(v:Value):Prop:=(env.kindOf x=some .local/\∃m,h.Ns env.locals m/\m x=some v)\/((env.kindOf x=some .cell\/env.kindOf x=some .free)/\∃a,env.cells.lookup x=some a/\h.IsCell a (some v))
def Own(env:Env)(b:Addr):Prop:=b=env.locals\/∃x,env.kindOf x=some .cell/\env.cells.lookup x=some b
def Eh(env:Env)(x:Str)(b:Addr):Prop:=(env.kindOf x=some .local/\b=env.locals)\/(env.kindOf x=some .cell/\env.cells.lookup x=some b)
def Eh.own{x:Str}{b:Addr}(h:Eh env x b):Own env b:=h.elim (λ z=> .inl z.2) λ z=> .inr ⟨x,z⟩
structure y8(env:Env)(h:Heap):Prop where
 loc:∃o es ep,h.get? env.locals=some o/\o.data= .dict es ep/\StrKeys es
 cell:∀x,env.kindOf x=some .cell->∃a v,env.cells.lookup x=some a/\h.IsCell a v/\a≠env.locals
 inj:∀x y a,env.kindOf x=some .cell->env.kindOf y=some .cell->env.cells.lookup x=some a->env.cells.lookup y=some a->x=y
 sep:∀y a,env.kindOf y=some .free->env.cells.lookup y=some a->¬Own env a
def y8.keep{h h':Heap}(H:y8 env h)(k:∀b o,Own env b->h.get? b=some o->∃L,h'.get? b=some {o with slots:=L}):y8 env h' where
 loc:=let⟨o,es,ep,e,r⟩:=H.loc;let⟨L,M⟩:=k _ _ (.inl rfl) e;⟨_,es,ep,M,r⟩
 cell:=λ x C=>let⟨a,v,I,⟨o,e,r⟩,ne⟩:=H.cell x C;let⟨L,M⟩:=k _ _ (.inr ⟨x,C,I⟩) e;⟨a,v,I,⟨_,M,r⟩,ne⟩
 inj:=H.inj
 sep:=H.sep
def gc.keep{h h':Heap}{x:Str}{v:Value}(V:gc env h x v)(k1:∀o,h.get? env.locals=some o->∃L,h'.get? env.locals=some {o with slots:=L})(k2:∀a o,env.cells.lookup x=some a->h.get? a=some o->∃L,h'.get? a=some {o with slots:=L}):gc env h' x v:=by rcases V with⟨u,m,⟨o,es,ep,e,r⟩,hm⟩|⟨u,a,I,o,e,hd⟩;obtain⟨L,M⟩:=k1 o e;exact .inl ⟨u,m,⟨_,es,ep,M,r⟩,hm⟩;obtain⟨L,M⟩:=k2 a o I e;exact .inr ⟨u,a,I,_,M,hd⟩
section
variable{M:Model}
def lU{x:Str}{v:Value}{Q:dM}(u:env.scope.kind= .function)(V:gc env s.heap x v)(T:(x==("__classdict__":Str))=false)(h:Q v s):wpAny M A (loadName env x) Q E s:=by rcases V with⟨I,m,n,hm⟩|⟨I|I,a,w,p⟩;exact wpAny_loadName_local u I n hm h;exact wpAny_loadName_cell u I w p h;exact wpAny_loadName_free u I w p h T
def wg{x:Str}{v:Value}{Q:Unit->Shared->Prop}(z:env.scope.kind= .function)(H:y8 env s.heap)(L:env.kindOf x=some .local\/env.kindOf x=some .cell)(h:∀h' tk,y8 env h'->gc env h' x v->(∀y u,y≠x->gc env s.heap y u->gc env h' y u)->(∀b,¬Eh env x b->h'.get? b=s.heap.get? b)->h'.objs.size=s.heap.objs.size->Q () {s with heap:=h',toks:=tk}):wpAny M A (storeName env x v) Q E s:=by obtain⟨o,es,ep,e,hd,g⟩:=H.loc;rcases L with L|L;have c:s.heap.Ns env.locals (λ y=>nsFind es y):=⟨o,es,ep,e,hd,g,λ D=>rfl⟩;refine wpAny_storeName_local L c (λ h' C G=> ?_) (by refine z.symm▸?_;rfl);refine h h' _ ⟨?_,λ y t=> ?_,H.inj,H.sep⟩ (.inl ⟨L,_,C,ar rfl⟩) (λ y u j V=> ?_) (λ b U=>G.2 b λ q=>U (.inl ⟨L,q⟩)) G.1;obtain⟨N,A7,u6,e',yR,TK,D⟩:=C;exact⟨N,A7,u6,e',yR,TK⟩;obtain⟨a,w,I,ic,ne'⟩:=H.cell y t;exact⟨a,w,I,ic.sameBut G ne',ne'⟩;rcases V with⟨I,m,hm,n⟩|⟨I,a,p,n⟩;refine .inl ⟨I,_,C,?_⟩;refine(?_:(if y=x then some v else nsFind es y)=some u);refine(au j).symm▸?_;obtain⟨Qh,V7,V8,l,d,D,Gj⟩:=hm;rw[e]at l;obtain rfl:=aN l;rw[hd]at d;cases d;rw[Gj];exact n;refine .inr ⟨I,a,p,n.sameBut G ?_⟩;rcases I with I|I;obtain⟨i,D,T,D,ne⟩:=H.cell y I;rw[p]at T;obtain rfl:=aN T;exact ne;exact λ q=>H.sep y a I p (.inl q);obtain⟨a,va,I,ia,ne⟩:=H.cell x L;refine wpAny_storeName_cell z L I ia λ h' k G=> ?_;refine h h' _ ⟨?_,λ y t=> ?_,H.inj,H.sep⟩ (.inr ⟨.inl L,a,I,k⟩) (λ y u j V=> ?_) (λ b U=>G.2 b λ q=>U (.inr ⟨L,q▸I⟩)) G.1;exact⟨o,es,ep,(G.2 _ (Ne.symm ne)).trans e,hd,g⟩;by_cases r:y=x;subst r;exact⟨a,_,I,k,ne⟩;obtain⟨i,w,T,ic,ne'⟩:=H.cell y t;exact⟨i,w,T,ic.sameBut G λ q=>r (H.inj y x i t L T (q▸I)),ne'⟩;rcases V with⟨f,m,hm,n⟩|⟨f,i,p,n⟩;exact .inl ⟨f,m,hm.sameBut G (Ne.symm ne),n⟩;refine .inr ⟨f,i,p,n.sameBut G λ q=> ?_⟩;rcases f with f|f;exact j (H.inj y x i f L p (q▸I));exact H.sep y i f p (.inr ⟨x,L,q▸I⟩)
end
structure wh(J:Cx)(c:Vw)(env:Env)(h:Heap):Prop where
 kind:env.scope.kind= .function
 glob:env.globals=mainGlobals
 Ny:env.builtins=builtinsNs
 H:y8 env h
 own:∀b,Own env b->b∈c.y\/b∈c.z
 seen:∀x a,env.cells.lookup x=some a->J.h₀.objs.size<=a/\¬c.T a/\a<h.objs.size
 SP:∀x,env.kindOf x=some .free->(env.cells.lookup x).isSome=true
noncomputable def isVar:Option NameKind->Bool
 |some .local|some .cell|some .free=>true|_=>false
def CV(c:Vw)(env:Env)(nm:List (Str×Nat))(B:aw)(h:Heap):Prop:=∀x i v,nm.lookup x=some i->isVar (env.kindOf x)=true->B[i]? =some v->v= .aC\/∃u,gc env h x u/\aE c h v u
def Step.j6{c G:Vw}{s s':Shared}{W:Addr->Prop}(S:Step J c s G s' W)(R:Rel J c s){b:Addr}{o:Obj}(T:b∈c.y)(z:¬W b)(e:s.heap.get? b=some o):s'.heap.get? b=some o:=S.kept b o e (R.d5 b T).2.2.1 z (q5 R (R.d5 b T).1) λ q=>(R.d6 b q).2.2.2.2 T
def Rel.nO(R:Rel J c s){b:Addr}(h:b∈c.y\/b∈c.z):J.h₀.objs.size<=b/\¬c.T b/\b∉c.x/\b<s.heap.objs.size:=by rcases h with h|h;exact⟨(R.d5 b h).1,(R.d5 b h).2.2.1,(R.d5 b h).2.2.2,(R.d5 b h).2.1⟩;obtain⟨o,e,D⟩:=(R.d6 b h).2.1;exact⟨(R.d6 b h).1,(R.d6 b h).2.2.1,(R.d6 b h).2.2.2.1,b6 e⟩
def Step.wi{c G:Vw}{s s':Shared}{W:Addr->Prop}(S:Step J c s G s' W)(R:Rel J c s){b:Addr}{o:Obj}(T:b∈c.y\/b∈c.z)(z:¬W b)(e:s.heap.get? b=some o):∃L,s'.heap.get? b=some {o with slots:=L}:=S.there e (R.nO T).2.1 z (q5 R (R.nO T).1)
def wh.step{c G:Vw}{s s':Shared}{W:Addr->Prop}(H:wh J c env s.heap)(R:Rel J c s)(S:Step J c s G s' W)(M:∀b,Own env b->¬W b):wh J G env s'.heap where
 kind:=H.kind
 glob:=H.glob
 Ny:=H.Ny
 H:=H.H.keep λ b o A e=>S.wi R (H.own b A) (M b A) e
 own:=λ b A=>(H.own b A).imp (S.y b) (S.z b)
 seen:=λ x a I=>⟨(H.seen x a I).1,λ t=>(H.seen x a I).2.1 (S.carry.old a (H.seen x a I).2.2 t),ai (H.seen x a I).2.2 S.size⟩
 SP:=H.SP
def gc.step{c G:Vw}{s s':Shared}{W:Addr->Prop}{x:Str}{u:Value}(V:gc env s.heap x u)(H:wh J c env s.heap)(R:Rel J c s)(S:Step J c s G s' W)(M:¬W env.locals/\∀x a,env.cells.lookup x=some a->¬W a):gc env s'.heap x u:=V.keep (λ o e=>S.wi R (H.own _ (.inl rfl)) M.1 e) λ a o I e=>S.there e (H.seen x a I).2.1 (M.2 x a I) (q5 R (H.seen x a I).1)
def CV.step{c G:Vw}{s s':Shared}{W:Addr->Prop}{nm:List (Str×Nat)}(F:CV c env nm B s.heap)(H:wh J c env s.heap)(R:Rel J c s)(S:Step J c s G s' W)(M:¬W env.locals/\∀x a,env.cells.lookup x=some a->¬W a):CV G env nm B s'.heap:=λ x i v I L hi=>by rcases F x i v I L hi with q|⟨u,V,r⟩;exact .inl q;exact .inr ⟨u,V.step H R S M,r.carry S.carry⟩
inductive gj(J:Cx)(c:Vw)(s:Shared)(Q:fA)(x:Value)(s':Shared):Prop
 |mk (c':Vw) (v:V) (S:Step J c s c' s' cN) (r:aE c' s'.heap v x) (q:Q v c'.Y):gj J c s Q x s'
inductive y9(J:Cx)(c:Vw)(s:Shared){α:Type}(Q:α->Mem->Prop)(b:α)(s':Shared):Prop
 |mk (c':Vw) (S:Step J c s c' s' cN) (q:Q b c'.Y):y9 J c s Q b s'
def bA(J:Cx)(A:Around)(E:dM)(c:Vw)(s:Shared)(t:Sem Value)(Q:fA):Prop:=wpAny J.ay A t (gj J c s Q) E s
def bA.go{t:Sem Value}{P:dM}(h:bA J A E c s t Q)(f:∀x s' G v,Step J c s G s' cN->aE G s'.heap v x->Q v G.Y->P x s'):wpAny J.ay A t P E s:=aW h (λ x s' ⟨G,v,S,r,q⟩=>f x s' G v S r q) λ D D z=>z
def bA.after{c c₁:Vw}{s y:Shared}{t:Sem Value}(S:Step J c s c₁ y cN)(h:bA J A E c₁ y t Q):wpAny J.ay A t (gj J c s Q) E y:=aW h (λ D D ⟨G,v,w,r,q⟩=>⟨G,v,S.trans w,r,q⟩) λ D D e=>e
def bA.val{x:Value}{v:V}(R:Rel J c s)(r:aE c s.heap v x)(q:Q v c.Y):bA J A E c s (pure x) Q:=ax ⟨c,v,.refl R,r,q⟩
def Rel.toks(R:Rel J c s)(t:Nat):Rel J c {s with toks:=t}:=⟨R.base,R.tab,R.lT,R.size,R.obj,R.apart,R.high,R.oD,R.d5,R.d6,R.gens,R.os⟩
def Step.toks{W:Addr->Prop}(R:Rel J c s)(t:Nat):Step J c s c {s with toks:=t} W:=⟨R.toks t,.refl ..,λ D h=>h,λ D h=> .inl h,λ D h=>h,λ D h=>h,λ D h=> .inl h,λ D D e D D D D=>e,λ D o e D D=>⟨o.slots,e⟩,ah _⟩
def xe(A:Around)(c:Vw):Prop:=∃l,A.frames=some l/\∀e∈l,e.scope.kind≠.module/\∃L,e.frame=some L/\L∈c.z
def xe.step{c G:Vw}{s s':Shared}{W:Addr->Prop}(k:xe A c)(S:Step J c s G s' W):xe A G:=let⟨l,h,q⟩:=k;⟨l,h,λ e he=>let⟨a,L,b,d⟩:=q e he;⟨a,L,b,S.z L d⟩⟩
def xe.in1(k:xe A c):xe A.in1 c:=k
noncomputable def small(i:Int):Bool:=decide (i.natAbs<2^64)
def Bg{a:Int}(h:a.natAbs<2^64):Builtin.Int.intBits a<=64:=by delta Builtin.Int.intBits;split;exact hV _ _;rename_i n;exact(Nat.log2_lt λ q=>n (cZ.mpr (Int.natAbs_eq_zero.mp q))).mpr h
def noPylong{a b:Int}(U:b.natAbs<2^64):Builtin.divisionGoesByPylong a b=false:=by
 delta Builtin.divisionGoesByPylong;simp only[Bool.and_eq_false_iff,decide_eq_false_iff_not]
 left
 split;decide;rename_i n;exact aD (aa (gK (Nat.div_le_self _ _)) (aa (gK (bo ((Nat.log2_lt λ q=>n (cZ.mpr (Int.natAbs_eq_zero.mp q))).mpr U))) dD))
noncomputable def O.eI:O->Option aw
 | .list vs=>some vs|_=>none
def O.qk{o:O}{vs:aw}(h:o.eI=some vs):o= .list vs:=by cases o<;>first|(cases h;rfl)|exact nn h
noncomputable def bD(Y:Mem):V->Option aw
 | .list vs=>some vs| .ref i=>(Y.f i).eI
 |_=>none
def cu{v:V}{vs:aw}{x:Value}(R:Rel J c s)(r:aE c s.heap v x)(e:bD c.Y v=some vs):∃a f,x= .ref a/\SeqAt s.heap "list" a f/\aA c s.heap vs f:=by induction v using vC with
 |list ws=>obtain rfl:=aN e;obtain⟨a,f,rfl,h,D,q⟩:=r;exact⟨a,f,rfl,h,q⟩
 |ref i=>obtain⟨hi,rfl⟩:=r;have A:=R.obj i hi;rw[O.qk e]at A;obtain⟨D,f,h,q⟩:=A;exact⟨_,f,rfl,h,q⟩
 |_=>first|exact nf e|exact nn e|subst e
def mF(R:Rel J c s):¬c.N s.heap.objs.size:=by rintro(t|t|t);exact iI _ (R.high _ t).2;exact iI _ (R.d5 _ t).2.1;obtain⟨o,e,D⟩:=(R.d6 _ t).2.1;exact iI _ (b6 e)
def Rel.push(R:Rel J c s)(o:Obj)(t:Nat):Step J c s c {s with heap:=s.heap.push o,toks:=t} cN:=R.other cN (λ D D e D=>bN o e) (λ D h=>h.elim) (by refine(?_:_<=(s.heap.push o).objs.size);rw[b9];exact av _ _) rfl rfl
def oM(R:Rel J c s){vs:aw}{f:aI}(r:aA c s.heap vs f){t:Nat}(q:Q (.list vs) c.Y):gj J c s Q (.ref s.heap.objs.size) {s with heap:=s.heap.push {cls:= .type "list",data:= .seq f.toArray},toks:=t}:=have S:=R.push {cls:= .type "list",data:= .seq f.toArray} t
 ⟨c,.list vs,S,⟨_,f,rfl,⟨0,bS _ rfl⟩,mF R,r.carry S.carry⟩,q⟩
def Ej(R:Rel J c s){vs:aw}{f:aI}(r:aA c s.heap vs f){t:Nat}(q:Q (.tuple vs) c.Y):gj J c s Q (.ref s.heap.objs.size) {s with heap:=s.heap.push {cls:= .type "tuple",data:= .seq f.toArray},toks:=t}:=have S:=R.push {cls:= .type "tuple",data:= .seq f.toArray} t
 ⟨c,.tuple vs,S,⟨_,f,rfl,⟨0,bS _ rfl⟩,mF R,r.carry S.carry⟩,q⟩
def wj(R:Rel J c s){vs:aw}{f:aI}(r:aA c s.heap vs f){t:Nat}(q:Q (.ref c.Y.n) (c.Y.alloc (.list vs))):gj J c s Q (.ref s.heap.objs.size) {s with heap:=s.heap.push {cls:= .type "list",data:= .seq f.toArray},toks:=t}:=by
 have S:=R.new (s':={s with heap:=s.heap.push {cls:= .type "list",data:= .seq f.toArray},toks:=t}) s.heap.objs.size [s.heap.objs.size] [] (.list vs) (λ D D e=>bN _ e)
  (by refine(?_:_<=(s.heap.push _).objs.size);rw[b9];exact av _ _) rfl rfl (λ b U=>by replace U:=bX.mp U;subst U;exact⟨ah _,by refine(?_:_<(s.heap.push _).objs.size);rw[b9];exact bz _⟩) (λ b U=>by exact absurd U ck)
  λ k=>⟨rfl,f,⟨0,bS _ rfl⟩,r.carry k⟩
 refine⟨_,.ref c.Y.n,S,⟨bz _,?_⟩,q⟩;refine(?_:_=Value.ref (if c.Y.n=c.Y.n then _ else _));exact(ar rfl).symm▸rfl
noncomputable def Gk(b:Operator)(i j:Int):Option Int:=match b with
 | .Add=>some (i+j)| .Sub=>some (i-j)
 | .Mult=>if small i&&small j then some (i*j)else none| .FloorDiv=>if decide (j≠0)&&small j then some (i.fdiv j)else none
 | .Mod=>if decide (j≠0)then some (i.fmod j)else none| .Pow=>if decide (0<=j)&&(decide (j<=1000)&&small i)then some (i^j.toNat)else none
 | .LShift=>if decide (0<=j)&&(decide (j<=1000)&&small i)then some (i*2^j.toNat)else none| .RShift=>if decide (0<=j)then some (i.fdiv (2^j.toNat))else none
 | .BitAnd=>if decide (0<=i)&&decide (0<=j)then some ((i.toNat&&&j.toNat:Nat):Int)else none| .BitOr=>if decide (0<=i)&&decide (0<=j)then some ((i.toNat|||j.toNat:Nat):Int)else none
 |_=>none
noncomputable def Qk(xs ys:Option aw):Option V:=match xs,ys with
 |some xs,some ys=>if decide (xs.length+ys.length<=1000000)then some (.list (xs++ys))else none|_,_=>none
noncomputable def mulL(xs:Option aw)(n:Int):Option V:=match xs with
 |some xs=>if decide (0<=n)&&(decide (n<=1000)&&decide (xs.length<=1000))then some (.list (List.replicate n.toNat xs).flatten)else none|none=>none
noncomputable def V.int?:V->Option Int
 | .int i=> .some i|_=> .none
noncomputable def V.bool?:V->Option Bool
 | .bool b=> .some b|_=> .none
noncomputable def V.Bh:V->Option aj
 | .str x=> .some x|_=> .none
noncomputable def V.nQ:V->Option aj
 | .bytes x=> .some x|_=> .none
noncomputable def V.Mz:V->Option aw
 | .list x=> .some x|_=> .none
noncomputable def V.Gl:V->Option aw
 | .tuple x=> .some x|_=> .none
def V.gG{v:V}{i:Int}(h:v.int?=some i):v= .int i:=by cases v<;>first|(cases h;rfl)|exact nn h
def V.tc{v:V}{i:Bool}(h:v.bool?=some i):v= .bool i:=by cases v<;>first|(cases h;rfl)|exact nn h
def V.oO{v:V}{i:aj}(h:v.Bh=some i):v= .str i:=by cases v<;>first|(cases h;rfl)|exact nn h
def V.iC{v:V}{i:aj}(h:v.nQ=some i):v= .bytes i:=by cases v<;>first|(cases h;rfl)|exact nn h
def V.Gm{v:V}{i:aw}(h:v.Mz=some i):v= .list i:=by cases v<;>first|(cases h;rfl)|exact nn h
def V.Ek{v:V}{i:aw}(h:v.Gl=some i):v= .tuple i:=by cases v<;>first|(cases h;rfl)|exact nn h
def bind_some{α I:Type}{o:Option α}{f:α->Option I}{b:I}(h:o.bind f=some b):∃a,o=some a/\f a=some b:=vV.mp h
noncomputable def Gn(Y:Mem)(a b:V):Option V:=match a with
 | .str x=>b.Bh.bind λ y=>if decide (x.length+y.length<=1000000)then some (.str (x++y))else none| .bytes x=>b.nQ.bind λ y=>if decide (x.length+y.length<=1000000)then some (.bytes (x++y))else none
 |a=>Qk (bD Y a) (bD Y b)
noncomputable def Gp(Y:Mem)(a:V)(n:Int):Option V:=match a with
 | .str x=>if decide (0<=n)&&(decide (n<=1000)&&decide (x.length<=1000))then some (.str (List.replicate n.toNat x).flatten)else none|a=>mulL (bD Y a) n
noncomputable def TL(Y:Mem)(e:Operator)(a b:V):Option V:=match e with
 | .Add=>Gn Y a b| .Mult=>b.int?.bind (Gp Y a)
 |_=>none
noncomputable def lV(Y:Mem)(e:Operator)(a b:V):Option V:=match a.int? with
 |some i=>b.int?.bind λ j=>(Gk e i j).map .int|none=>TL Y e a b
def bitAnd_nn{i j:Int}(hi:0<=i)(t:0<=j):Builtin.bitAnd i j=((i.toNat&&&j.toNat:Nat):Int):=by delta Builtin.bitAnd;rw[af hi,af t]
def Bj(i:Int):Builtin.bitNot (Builtin.bitNot i)=i:=by delta Builtin.bitNot;omega
def Gq{i j:Int}(hi:0<=i)(t:0<=j):Builtin.bitOr i j=((i.toNat|||j.toNat:Nat):Int):=by
 have M:¬0<=Builtin.bitNot i:=by delta Builtin.bitNot;omega
 have N:¬0<=Builtin.bitNot j:=by delta Builtin.bitNot;omega
 unfold Builtin.bitOr Builtin.bitAnd;refine(cJ M).symm▸(cJ N).symm▸?_;simp only[Bj]
def bb{b:Bool}{α:Type}{x y:α}(h:(if b=true then some x else none)=some y):b=true/\x=y:=by induction b<;>simp at h;exact⟨rfl,h⟩
def Nz(R:Rel J c s){b:Operator}{i j r:Int}{t u:Tok}(h:Gk b i j=some r)(q:Q (.int r) c.Y):bA J A E c s (binaryOp b (.int i t) (.int j u)) Q:=by have fin:∀{z:Int}{tk:Nat}{x:Tok},z=r->(gj J c s Q (.int z x) {s with toks:=tk}):=λ{z tk x} e=>⟨c,.int r,Step.toks R _,⟨x,by exact e.symm▸rfl⟩,q⟩;induction b<;>(try cases h);exact add_int (fin rfl);exact sub_int (fin rfl);obtain⟨U,e⟩:=bb h;replace U:=(ao U).imp ae ae;exact mul_int (fin e) (.of_left (Bg U.1));obtain⟨U,e⟩:=bb h;exact mod_int' (ae U) (fin e);obtain⟨U,e⟩:=bb h;replace U:=(ao U).imp ae λ h=>(ao h).imp ae ae;exact pow_int_small U.1 (by omega) U.2.2 (fin e);obtain⟨U,e⟩:=bb h;replace U:=(ao U).imp ae λ h=>(ao h).imp ae ae;exact lshift_int_small U.1 (by omega) U.2.2 (fin e);obtain⟨U,e⟩:=bb h;exact rshift_int (ae U) (fin e);obtain⟨U,e⟩:=bb h;replace U:=(ao U).imp ae ae;exact or_int (fin (by exact Gq U.1 U.2▸e));obtain⟨U,e⟩:=bb h;replace U:=(ao U).imp ae ae;exact and_int (fin (by exact bitAnd_nn U.1 U.2▸e));obtain⟨U,e⟩:=bb h;replace U:=(ao U).imp ae ae;exact floordiv_int U.1 (fin e) (.inl (noPylong U.2))
def ik(x y:aj):strOf x++strOf y=strOf (x++y):=by refine(?_:Str.mk _=Str.mk _);simp[strOf]
def aP(x:aj):(strOf x).length=x.length:=by rfl
def aK:sizeLine=16777216:=rfl
def Bk(R:Rel J c s){x y:aj}{t u:Tok}(I:x.length+y.length<=1000000)(q:Q (.str (x++y)) c.Y):bA J A E c s (binaryOp .Add (.str (strOf x) t) (.str (strOf y) u)) Q:=add_str (λ f tk=>⟨c,.str (x++y),Step.toks R _,⟨f,by rw[ik]⟩,q⟩) (by rw[aP,aP,aK];omega)
def za(R:Rel J c s){v w:V}{xs ys:aw}{x y:Value}(o:aE c s.heap v x)(i:aE c s.heap w y)(M:bD c.Y v=some xs)(N:bD c.Y w=some ys)(I:xs.length+ys.length<=1000000)(q:Q (.list (xs++ys)) c.Y):bA J A E c s (binaryOp .Add x y) Q:=by obtain⟨a,f,rfl,⟨n,k⟩,v1⟩:=cu R o M;obtain⟨b,G,rfl,⟨n2,d⟩,v2⟩:=cu R i N;refine P.add_list k d ?_ (by rw[cf,cf,<-v1.length,<-v2.length,aK];omega);have:=oM R (t:=s.toks) (v1.append v2) q;simpa using this
def SeqAt.isList{a:Addr}{f:aI}(x:SeqAt h "list" a f):h.IsList a f.toArray:=let⟨n,e⟩:=x;⟨_,e,rfl,n,rfl⟩
def SeqAt.fK{a:Addr}{f:aI}(x:SeqAt h "tuple" a f):h.IsTuple a f.toArray:=let⟨n,e⟩:=x;⟨_,e,rfl,n,rfl⟩
def xg(R:Rel J c s){x y:aj}{t u:Tok}(L:∀b∈x,b<256)(T:∀b∈y,b<256)(I:x.length+y.length<=1000000)(q:Q (.bytes (x++y)) c.Y):bA J A E c s (binaryOp .Add (.bytes (bG x) t) (.bytes (bG y) u)) Q:=bytes_add_K (b:=x.map UInt8.ofNat) (c:=y.map UInt8.ofNat) (d:=(x++y).map UInt8.ofNat) (by simp;exact aa I dD) (by simp) λ f k=>⟨c,.bytes (x++y),Step.toks R _,⟨λ b U=>by rcases bK.mp U with h|h;exact L b h;exact T b h,f,rfl⟩,q⟩
noncomputable def cQ(Y:Mem):V->Option Bool
 | .bool b=>some b| .int i=>some (i !=0)
 | .none=>some false| .str x=>if decide (x.length<=1000000)then some (decide (x≠[]))else none
 |v=>match bD Y v with
  |some vs=>if decide (vs.length<=1000000)then some (!vs.isEmpty)else none|none=>none
def zb(J:Cx)(A:Around)(E:dM)(c:Vw)(s:Shared)(t:Sem Bool)(Q:Bool->Mem->Prop):Prop:=wpAny J.ay A t (y9 J c s Q) E s
def zb.go{t:Sem Bool}{Q:Bool->Mem->Prop}{P:Bool->Shared->Prop}(h:zb J A E c s t Q)(f:∀b s' G,Step J c s G s' cN->Q b G.Y->P b s'):wpAny J.ay A t P E s:=aW h (λ b s' ⟨G,S,q⟩=>f b s' G S q) λ D D z=>z
def zb.after{c c₁:Vw}{s y:Shared}{t:Sem Bool}{Q:Bool->Mem->Prop}(S:Step J c s c₁ y cN)(h:zb J A E c₁ y t Q):wpAny J.ay A t (y9 J c s Q) E y:=aW h (λ D D ⟨G,w,q⟩=>⟨G,S.trans w,q⟩) λ D D e=>e
def jr{v:V}{b:Bool}(h:(match bD Y v with|some vs=>if decide (vs.length<=1000000)then some (!vs.isEmpty)else none|none=>none)=some b):∃vs,bD Y v=some vs/\vs.length<=1000000/\b= !vs.isEmpty:=by cases e:bD Y v with
 |none=>rw[e]at h;exact nn h|some vs=>rw[e]at h;obtain⟨M,N⟩:=bb h;exact⟨vs,rfl,ae M,N.symm⟩
def Bl(R:Rel J c s){v:V}{x:Value}{vs:aw}{Q:Bool->Mem->Prop}(r:aE c s.heap v x)(e:bD c.Y v=some vs)(I:vs.length<=1000000)(q:Q (!vs.isEmpty) c.Y):zb J A E c s (truthy x) Q:=by obtain⟨a,f,rfl,h,d⟩:=cu R r e;refine wpAny_truthy_list h.isList (by refine cf.symm▸d.length▸?_;exact Int.lt_of_le_of_lt (gb.mpr I) dD) ⟨c,Step.toks R _,?_⟩;exact(show f.toArray.isEmpty=vs.isEmpty from d.ind (P:=λ vs f=>f.toArray.isEmpty=vs.isEmpty) rfl λ D D D D D D D=>rfl)▸q
def q7(R:Rel J c s){v:V}{x:Value}{b:Bool}{Q:Bool->Mem->Prop}(r:aE c s.heap v x)(h:cQ c.Y v=some b)(q:Q b c.Y):zb J A E c s (truthy x) Q:=by have lst:(∃vs,bD c.Y v=some vs/\vs.length<=1000000/\b= !vs.isEmpty)->zb J A E c s (truthy x) Q:=λ⟨vs,e,I,U⟩=>Bl R r e I (U▸q);induction v using vC with
 |bool M=>obtain rfl:=aN h;exact r▸wpAny_truthy_bool ⟨c,.refl R,q⟩
 |int i=>obtain rfl:=aN h;obtain⟨t,rfl⟩:=r;exact P.truthy_int ⟨c,.refl R,q⟩
 |none=>obtain rfl:=aN h;exact r▸λ D D D=>⟨c,.refl R,q⟩
 |str y=>
  obtain⟨t,rfl⟩:=r;have h:=bb h;have N:=ae h.1;rw[<-h.2]at q;refine P.truthy_str (by rw[aP];omega) ⟨c,Step.toks R _,?_⟩;rw[aP,show((y.length:Int)!=0)=decide (y≠[]) by induction y with
   |nil=>rfl|cons a l=>simp;omega]
  exact q
 |list vs=>exact lst (jr h)|ref i=>exact lst (jr h)
 |_=>exact nn h
noncomputable def allEq:List (Option Bool)->Option Bool
 |[]=>some true|some a::l=>(allEq l).map (a&&·)
 |none::_=>none
noncomputable def xh:V->Bool
 | .none=>true|_=>false
noncomputable def zc(f:Option (V->V->Option Bool))(d:Option Bool)(a b:aw):Option Bool:=if decide (a.length=b.length)then f.bind λ f=>allEq (List.zipWith f a b)else d
noncomputable def Bn(f:Option (V->V->Option Bool))(v w:V):Option Bool:=match v with
 | .none=>if xh w then some true else none| .bool a=>w.bool?.map (a==·)
 | .int a=>w.int?.map (a==·)| .str a=>w.Bh.map (a==·)
 | .list a=>w.Mz.bind λ b=>zc f (some false) a b| .tuple a=>w.Gl.bind λ b=>zc f none a b
 |_=>none
noncomputable def xi:Nat->V->V->Option Bool
 |0=>Bn none|n+1=>Bn (some (xi n))
inductive El(f:Option (V->V->Option Bool)):V->V->Bool->Prop
 |none:El f .none .none true
 |bool (a b:Bool):El f (.bool a) (.bool b) (a==b)
 |int (a b:Int):El f (.int a) (.int b) (a==b)
 |str (a b:aj):El f (.str a) (.str b) (a==b)
 |list (g:V->V->Option Bool) (a b:aw) (q:Bool) (hf:f=some g) (hl:a.length=b.length) (h:allEq (List.zipWith g a b)=some q):El f (.list a) (.list b) q
 |other (a b:aw) (hl:a.length≠b.length):El f (.list a) (.list b) false
 |tuple (g:V->V->Option Bool) (a b:aw) (q:Bool) (hf:f=some g) (hl:a.length=b.length) (h:allEq (List.zipWith g a b)=some q):El f (.tuple a) (.tuple b) q
def td{f:Option (V->V->Option Bool)}{d:Option Bool}{a b:aw}{q:Bool}(h:zc f d a b=some q):(∃g,f=some g/\a.length=b.length/\allEq (List.zipWith g a b)=some q)\/(a.length≠b.length/\d=some q):=by unfold zc at h;by_cases I:a.length=b.length;rw[af I,ar rfl]at h;obtain⟨g,e,h⟩:=bind_some h;exact .inl ⟨g,e,I,h⟩;rw[cJ I,au iJ]at h;exact .inr ⟨I,h⟩
def gO{f:Option (V->V->Option Bool)}{v w:V}{q:Bool}(h:Bn f v w=some q):El f v w q:=by induction v using vC with
 |none=>induction w using vC with
  |none=>exact aN h▸.none|_=>exact nn h
 |bool a=>obtain⟨b,e,M⟩:=dR.mp h;refine(V.tc e).symm▸M▸?_;exact .bool a b
 |int a=>obtain⟨b,e,M⟩:=dR.mp h;refine(V.gG e).symm▸M▸?_;exact .int a b
 |str a=>obtain⟨b,e,M⟩:=dR.mp h;refine(V.oO e).symm▸M▸?_;exact .str a b
 |list a=>obtain⟨b,e,h⟩:=bind_some h;refine(V.Gm e).symm▸?_;rcases td h with⟨g,e,I,h⟩|⟨I,h⟩;exact .list g a b q e I h;exact aN h▸.other a b I
 |tuple a=>obtain⟨b,e,h⟩:=bind_some h;refine(V.Ek e).symm▸?_;rcases td h with⟨g,e,I,h⟩|⟨I,h⟩;exact .tuple g a b q e I h;exact nn h
 |_=>exact nn h
def Em{l:List (Option Bool)}{r:Bool}(h:allEq l=some r):(∀j,j<l.length->∃b,l[j]? =some (some b))/\r=(List.range l.length).all λ j=>(l[j]?.join).getD true:=by induction l generalizing r with
 |nil=>exact⟨λ j t=>absurd t (jW j),(aN h).symm⟩|cons o l z=>induction o with
  |none=>exact nn h|some a=>obtain⟨d,h',rfl⟩:=dR.mp h;have i:=z h';refine⟨λ j=>Nat.casesOn j (λ D=>⟨a,rfl⟩) λ j t=>i.1 j (Nat.lt_of_succ_lt_succ t),?_⟩;rw[List.length_cons,List.range_succ_eq_map,List.all_cons,List.all_map,i.2];rfl
def wk{a b:aj}(h:strOf a=strOf b):a=b:=by have:=aF (λ z:Str=>z.cps.toList) h;exact this
def ql(a b:aj):(strOf a==strOf b)=(a==b):=by by_cases h:a=b;subst h;simp;exact(lH.mpr h).symm▸(lH.mpr λ e=>h (wk e)).symm▸rfl
def aA.Ql{vs:aw}{xs:aI}(r:aA c h vs xs):∀(j:Nat)(t:j<xs.length),∃v,vs[j]? =some v/\aE c h v xs[j]:=r.ind (P:=λ vs xs=>∀(j:Nat)(t:j<xs.length),∃v,vs[j]? =some v/\aE c h v xs[j]) (λ j t=>absurd t (jW j)) λ v vs x xs r D z j=>Nat.casesOn j (λ D=>⟨v,rfl,r⟩) λ j t=>z j (Nat.lt_of_succ_lt_succ t)
def Gr(c:Vw)(s:Shared)(g:V->V->Option Bool):Prop:=∀{v w:V}{x:Value}{b:Bool},aE c s.heap v x->aE c s.heap w x->g v w=some b->b=true
def zd{g:V->V->Option Bool}(z:Gr c s g){vs ws:aw}{f:aI}{b:Bool}(o:aA c s.heap vs f)(i:aA c s.heap ws f)(h:allEq (List.zipWith g vs ws)=some b):b=true:=by induction vs generalizing ws f b with
 |nil=>exact(aN h).symm|cons v vs I=>induction f using lC with
  |nil=>exact o.elim|cons x f=>induction ws using lC with
   |nil=>exact i.elim|cons w ws=>rw[List.zipWith_cons_cons]at h;cases e:g v w with
    |none=>rw[e]at h;exact nn h|some q=>rw[e]at h;obtain⟨d,h',rfl⟩:=dR.mp h;refine(z o.1 i.1 e).symm▸(I o.2 i.2 h').symm▸?_;rfl
def SeqAt.NA{T m:String}{a:Addr}{xs ys:aI}(M:SeqAt s.heap T a xs)(N:SeqAt s.heap m a ys):xs=ys:=by
 obtain⟨k,x⟩:=M;obtain⟨w,d⟩:=N;have e:=aF Obj.data (aN (x.symm.trans d))
 injection e with e
 exact aF Array.toList e
def wm(c:Vw)(s:Shared)(T:String)(vs:aw)(x:Value):Prop:=∃a f,x= .ref a/\SeqAt s.heap T a f/\¬c.N a/\aA c s.heap vs f
def wm.one{T:String}{vs ws:aw}{x:Value}(M:wm c s T vs x)(N:wm c s T ws x):∃f,aA c s.heap vs f/\aA c s.heap ws f:=by obtain⟨a,f,rfl,G,D,o⟩:=M;obtain⟨Q,E,e,y,D,b⟩:=N;rw[<-sV e]at y;rw[<-G.NA y]at b;exact⟨f,o,b⟩
def step_same{f:Option (V->V->Option Bool)}(z:∀g,f=some g->Gr c s g):∀{v w:V}{x:Value}{b:Bool},aE c s.heap v x->aE c s.heap w x->El f v w b->b=true:=by intro v w x b o i h;induction h using El.casesOn with
 |none=>rfl|bool a b=>exact cZ.mpr (Value.bool.inj (o.symm.trans i))
 |int a b=>obtain⟨t,rfl⟩:=o;obtain⟨u,e⟩:=i;injection e with e;exact cZ.mpr e
 |str a b=>obtain⟨t,rfl⟩:=o;obtain⟨u,e⟩:=i;injection e with e;exact cZ.mpr (wk e)
 |list g vs ws q hf I h=>obtain⟨m,k,U⟩:=wm.one (T:="list") o i;exact zd (z g hf) k U h
 |other vs ws I=>obtain⟨m,k,U⟩:=wm.one (T:="list") o i;exact absurd (k.length.trans U.length.symm) I
 |tuple g vs ws q hf I h=>obtain⟨m,k,U⟩:=wm.one (T:="tuple") o i;exact zd (z g hf) k U h
def ze{n:Nat}:Gr c s (xi n):=by induction n with
 |zero=>exact λ q o h=>step_same (f:=none) (λ g e=>nn e) q o (gO h)|succ n z=>exact λ q o h=>step_same (f:=some (xi n)) (λ g e=>aN e▸z) q o (gO h)
def SQ(c:Vw)(s:Shared)(A:Around)(g:V->V->Option Bool):Prop:=∀{v w:V}{x y:Value}{b:Bool},aE c s.heap v x->aE c s.heap w y->g v w=some b->PySem.SeqAt.EqAt A s x y b
structure Qm(A:Around)(s:Shared)(o:Nat->Bool)(aM je:aI)(b:Bool):Prop where
 z1:aM.length=je.length
 z2:b=(List.range aM.toArray.size).all o
 z3:∀j(h1:j<aM.toArray.size)(h2:j<je.toArray.size),PySem.SeqAt.EqAt A.in1 s aM.toArray[j] je.toArray[j] (o j)
def oQ{g:V->V->Option Bool}(z:SQ c s A.in1 g){vs ws:aw}{xs ys:aI}{b:Bool}(q:aA c s.heap vs xs)(o:aA c s.heap ws ys)(I:vs.length=ws.length)(h:allEq (List.zipWith g vs ws)=some b):Qm A s (λ j=>((List.zipWith g vs ws)[j]?.join).getD true) xs ys b:=by
 have k:=Em h;have l:(List.zipWith g vs ws).length=xs.length:=by rw[List.length_zipWith,<-I,Nat.min_self];exact q.length
 refine⟨q.length.symm.trans (I.trans o.length),?_,λ j M N=> ?_⟩;refine cf.symm▸l▸?_;exact k.2;rw[cf]at M N;obtain⟨v,n,i⟩:=q.Ql j M;obtain⟨w,m,e⟩:=o.Ql j N;have d:(List.zipWith g vs ws)[j]? =some (g v w):=by exact(List.getElem?_zipWith).symm▸n.symm▸m.symm▸rfl
 obtain⟨G,a⟩:=k.1 j (l▸M);have U:=aN (d.symm.trans a);refine d.symm▸U.symm▸?_;exact z i e U
def Bo{vs ws:aw}{f E:aI}(I:vs.length≠ws.length)(y:aA c s.heap vs f)(H:aA c s.heap ws E):(f.toArray.size !=E.toArray.size)=true:=bne_iff_ne.mpr λ q=>I (y.length.trans (q.trans H.length.symm))
def sv{f E:aI}(k:f.length=E.length):min f.toArray.size E.toArray.size=f.toArray.size/\(f.toArray.size==E.toArray.size)=true:=⟨Nat.min_eq_left (bO k),cZ.mpr k⟩
open PySem.SeqAt in
def step_at{f:Option (V->V->Option Bool)}(m:∀g,f=some g->SQ c s A.in1 g)(M:A.units<cLine){v w:V}{x y:Value}{b:Bool}(o:aE c s.heap v x)(i:aE c s.heap w y)(h:El f v w b)(sm:x=y->b=true):EqAt A s x y b:=by induction h using El.casesOn with
 |none=>refine(show x= .none from o).symm▸(show y= .none from i).symm▸?_;exact EqAt.same _|bool a b=>refine(show x= .bool a from o).symm▸(show y= .bool b from i).symm▸?_;exact EqAt.bool_bool _ _
 |int a b=>obtain⟨t,rfl⟩:=o;obtain⟨u,rfl⟩:=i;exact EqAt.int_int _ _ _ _
 |str a b=>obtain⟨t,rfl⟩:=o;obtain⟨u,rfl⟩:=i;rw[<-ql];exact EqAt.str_str _ _ _ _
 |list g vs ws q hf I h=>obtain⟨a,n,rfl,k,D,E⟩:=o;obtain⟨Q,p,rfl,U,D,H⟩:=i;by_cases e:a=Q;refine(sm (e▸rfl)).symm▸e.symm▸?_;exact EqAt.same _;have z:=oQ (m g hf) E H I h;exact z.z2▸EqAt.of_refs e (RcAt.lists k.isList U.isList z.z1 M z.z3)
 |other vs ws I=>obtain⟨a,n,rfl,k,D,E⟩:=o;obtain⟨Q,p,rfl,U,D,H⟩:=i;by_cases e:a=Q;exact nf (sm (e▸rfl));exact EqAt.of_refs e (RcAt.lists_lengths k.isList U.isList (Bo I E H) M)
 |tuple g vs ws q hf I h=>obtain⟨a,n,rfl,k,D,E⟩:=o;obtain⟨Q,p,rfl,U,D,H⟩:=i;by_cases e:a=Q;refine(sm (e▸rfl)).symm▸e.symm▸?_;exact EqAt.same _;have z:=oQ (m g hf) E H I h;have:=RcAt.tuples k.fK U.fK M z.z3;rw[(sv z.z1).1,(sv z.z1).2,Bool.and_true,<-z.z2]at this;exact EqAt.of_refs e this
def NB{n:Nat}(v:A.units+n<cLine):SQ c s A (xi n):=by induction n generalizing A with
 |zero=>exact λ q o h=>step_at (f:=none) (λ g e=>nn e) v q o (gO h) λ e=>ze (n:=0) q (e▸o) h|succ n z=>exact λ q o h=>step_at (f:=some (xi n)) (λ g e=>aN e▸z (A:=A.in1) (by refine(?_:A.units+1+n<cLine);rw[fC,eO 1 n];exact v)) (bt (av _ _) v) q o (gO h) λ e=>ze (n:=n+1) q (e▸o) h
def xj{k m:Int}{x:Value}{es:List (Int×Value)}:valueAt ((m,x)::es) k=if m=k then some x else valueAt es k:=by delta valueAt;rw[List.find?_cons];by_cases e:m=k;refine(ar e).symm▸(af e).symm▸?_;rfl;exact(au e).symm▸(cJ e).symm▸rfl
def c6.lookup{k:Int}{bJ:List (Int×V)}{s:List (Int×Value)}(r:c6 c h bJ s):(∀v,bJ.lookup k=some v->∃x,valueAt s k=some x/\aE c h v x)/\(bJ.lookup k=none->valueAt s k=none):=r.ind (P:=λ bJ s=>(∀v,bJ.lookup k=some v->∃x,valueAt s k=some x/\aE c h v x)/\(bJ.lookup k=none->valueAt s k=none)) ⟨λ v e=>nn e,λ D=>rfl⟩ λ m v r x es o b z=>by rw[fm,xj];by_cases e:k=m;refine(ar e.symm).symm▸(cZ.mpr e).symm▸?_;exact⟨λ w g=>⟨x,rfl,aN g▸o⟩,λ g=>sn g⟩;refine(au (Ne.symm e)).symm▸(lH.mpr e).symm▸?_;exact z
def c6.vals{bJ:List (Int×V)}{s:List (Int×Value)}(r:c6 c h bJ s):bJ.length=s.length/\∀(j:Nat) k v,bJ[j]? =some (k,v)->∃x,s[j]? =some (k,x)/\aE c h v x:=r.ind (P:=λ bJ s=>bJ.length=s.length/\∀(j:Nat) k v,bJ[j]? =some (k,v)->∃x,s[j]? =some (k,x)/\aE c h v x) ⟨rfl,λ j k v e=>nn e⟩ λ m o r x es i b z=>⟨aF (·+1) z.1,λ j k₂ d e=>by
  induction j using nC with
  |zero=>
   have e:=aN e
   refine(show k₂=m from(aF Prod.fst e).symm).symm▸(show d=o from(aF Prod.snd e).symm).symm▸?_
   exact⟨x,rfl,i⟩
  |succ j=>exact z.2 j k₂ d e⟩
open PySem.Builtin.Str in
def Kk(x:aj)(k:Nat):(!(occurrences (strOf x) (strOf [k]) 0 (strOf x).length 1).isEmpty)=decide (k∈x):=by
 rcases StrLaws.occ_head (strOf x) (strOf [k]) 1 (ah _)with⟨e,h⟩|⟨i,r,e,h,D⟩;refine e.symm▸?_
 symm
 simp only[List.isEmpty_nil,Bool.not_true,decide_eq_false_iff_not];intro hm;obtain⟨i,hi,rfl⟩:=List.getElem_of_mem hm;refine h i ⟨by rw[aP,aP];simp;assumption,?_⟩;rw[StrLaws.subAt_eq];have:List.take 1 (List.drop i x)=[x[i]]:=by exact(qV hi).symm▸List.take_succ_cons.symm▸List.take_zero.symm▸rfl
 exact cZ.mpr ‹_›;refine e.symm▸?_
 symm
 simp only[List.isEmpty_cons,Bool.not_false,decide_eq_true_eq];obtain⟨M,N⟩:=h;rw[aP,aP]at M;rw[StrLaws.subAt_eq]at N;simp[strOf,Str.length]at N M;have hi:i<x.length:=by assumption
 rw[qV hi,List.take_succ_cons,List.take_zero]at N
 injection N with N _
 exact N▸List.getElem_mem hi
noncomputable def xl:V->Option Bool
 | .none=>some true| .aC=>none
 | .bi _=>none| .bm _=>none
 | .it _ _=>none| .lh _=>none
 |_=>some false
noncomputable def TN(t:Ty):V->Option Bool
 | .ty s=>some (decide (s=t))| .none=>some false
 |_=>none
noncomputable def TO(v w:V):Option Bool:=match w with
 | .none=>xl v| .ty t=>TN t v
 |_=>none
noncomputable def Wa(v w:V):Option Bool:=match v with
 | .str a=>w.Bh.map (a==·)| .int a=>w.int?.map (a==·)
 | .bool a=>w.bool?.map (a==·)|_=>none
noncomputable def iq(v:V):aw->Option Bool
 |[]=>some false|w::ws=>(Wa w v).bind λ a=>(iq v ws).map (a||·)
noncomputable def jt:Value->Value->Bool
 | .str a _,.str b _=>a==b| .int a _,.int b _=>a==b
 | .bool a,.bool b=>a==b|_,_=>false
noncomputable def Wb:aj->Option Nat
 |[k]=>some k|_=>none
def NC{l:aj}{k:Nat}(h:Wb l=some k):l=[k]:=by match l,h with
 |[k],h=>obtain rfl:=aN h;rfl
noncomputable def Qo(o:O)(k:Int):Option Bool:=match o with
 | .dict bJ _=>some (bJ.lookup k).isSome| .set xs=>some (decide (k∈xs))
 |_=>none
noncomputable def TP(Y:Mem)(v w:V):Option Bool:=match w with
 | .str l=>(v.Bh.bind Wb).map λ k=>decide (k∈l)| .tuple vs=>iq v vs
 | .list vs=>iq v vs| .ref i=>v.int?.bind (Qo (Y.f i))
 |_=>none
noncomputable def Gs(a b:V)(f:Int->Int->Bool):Option Bool:=a.int?.bind λ i=>b.int?.map (f i)
def mG{a b:V}{f:Int->Int->Bool}{q:Bool}(h:Gs a b f=some q):∃i j,a= .int i/\b= .int j/\f i j=q:=by obtain⟨i,e,h⟩:=bind_some h;obtain⟨j,d,h⟩:=dR.mp h;exact⟨i,j,V.gG e,V.gG d,h⟩
noncomputable def Qp(v w:V):Option Bool:=match v with
 | .bytes a=>w.nQ.map (a==·)|v=>xi 6 v w
noncomputable def qm(Y:Mem)(e:CmpOp)(a b:V):Option Bool:=match e with
 | .Eq=>Qp a b| .NotEq=>(Qp a b).map (!·)
 | .Lt=>Gs a b λ i j=>decide (i<j)| .LtE=>Gs a b λ i j=>decide (i<=j)
 | .Gt=>Gs a b λ i j=>decide (j<i)| .GtE=>Gs a b λ i j=>decide (j<=i)
 | .Is=>TO a b| .IsNot=>(TO a b).map (!·)
 | .In=>TP Y a b| .NotIn=>(TP Y a b).map (!·)
def Gu{a b:aj}(C:∀y∈a,y<256)(U:∀y∈b,y<256):((bG a).toList==(bG b).toList)=(a==b):=by
 refine Bool.eq_iff_iff.mpr ⟨λ h=>cZ.mpr ?_,λ h=>bc h▸f9 _⟩;have h:a.map UInt8.ofNat=b.map UInt8.ofNat:=bc h;have g:∀{l:aj},(∀y∈l,y<256)->(l.map UInt8.ofNat).map UInt8.toNat=l:=λ{l} I=>by rw[fo];exact(vW λ y T=>(UInt8.toNat_ofNat'.trans (oJ (I y T)))).trans (List.map_id _)
 rw[<-g C,<-g U,h]
open PySem.SeqAt in
def ND{n:Nat}{v w:V}{x y:Value}{b:Bool}(N:A.units+n+1<cLine)(i:aE c s.heap v x)(k:aE c s.heap w y)(h:xi (n+1) v w=some b):RcAt A s x y b/\RcNeAt A s x y (!b):=by have M:A.units<cLine:=bt (av A.units (n+1)) N;have m:∀g,some (xi n)=some g->SQ c s A.in1 g:=λ g e=>aN e▸NB (by refine(?_:A.units+1+n<cLine);rw[fD];exact N);have h':=gO (f:=some (xi n)) h;clear h;rename _=>h;generalize some (xi n)=f at m h;induction h using El.casesOn with
 |none=>refine(show x= .none from i).symm▸(show y= .none from k).symm▸?_;exact⟨RcAt.none_none,RcNeAt.none_none⟩|bool a b=>refine(show x= .bool a from i).symm▸(show y= .bool b from k).symm▸?_;exact⟨RcAt.bool_bool _ _,RcNeAt.bool_bool _ _⟩
 |int a b=>obtain⟨t,rfl⟩:=i;obtain⟨u,rfl⟩:=k;exact⟨RcAt.int_int _ _ _ _,RcNeAt.int_int _ _ _ _⟩
 |str a b=>obtain⟨t,rfl⟩:=i;obtain⟨u,rfl⟩:=k;rw[<-ql];exact⟨RcAt.str_str _ _ _ _,RcNeAt.str_str _ _ _ _⟩
 |list g vs ws q hf I h=>obtain⟨a,p,rfl,o,D,E⟩:=i;obtain⟨Q,T,rfl,U,D,H⟩:=k;have z:=oQ (m g hf) E H I h;exact z.z2▸⟨RcAt.lists o.isList U.isList z.z1 M z.z3,RcNeAt.lists o.isList U.isList z.z1 M z.z3⟩
 |other vs ws I=>obtain⟨a,p,rfl,o,D,E⟩:=i;obtain⟨Q,T,rfl,U,D,H⟩:=k;exact⟨RcAt.lists_lengths o.isList U.isList (Bo I E H) M,RcNeAt.lists_lengths o.isList U.isList (Bo I E H) M⟩
 |tuple g vs ws q hf I h=>obtain⟨a,p,rfl,o,D,E⟩:=i;obtain⟨Q,T,rfl,U,D,H⟩:=k;have z:=oQ (m g hf) E H I h;have G:=RcAt.tuples o.fK U.fK M z.z3;have L:=RcNeAt.tuples o.fK U.fK M z.z3;rw[(sv z.z1).1,(sv z.z1).2,Bool.and_true,<-z.z2]at G L;exact⟨G,L⟩
open PySem.SeqAt in
def Gv(k:A.units+10<cLine){v w:V}{x y:Value}{b:Bool}(i:aE c s.heap v x)(o:aE c s.heap w y)(h:Qp v w=some b):RcAt A s x y b/\RcNeAt A s x y (!b):=by have go:xi 6 v w=some b->RcAt A s x y b/\RcNeAt A s x y (!b):=ND (n:=5) (bt (mY (by decide:5+1<=10) A.units) k) i o;induction v using vC with
 |bytes a=>obtain⟨d,e,rfl⟩:=dR.mp h;rw[V.iC e]at o;obtain⟨C,t,rfl⟩:=i;obtain⟨hd,u,rfl⟩:=o;rw[<-Gu C hd];exact⟨λ D D D D q=>richCompare_gives (typeIs_bytes s _ t) (typeIs_bytes s _ u) PySem.W.FB.slot_bytes_eq PySem.W.FB.entry_bytes_eq (PySem.W.FB.args_bytes_eq_2 _ _) (PySem.W.gives_bytes_eq _ _ t u) (λ x=>Kg x) q,λ D D D D q=>richCompare_gives (typeIs_bytes s _ t) (typeIs_bytes s _ u) PySem.W.FB.slot_bytes_ne PySem.W.FB.entry_bytes_ne (PySem.W.FB.args_bytes_ne_2 _ _) (PySem.W.gives_bytes_ne _ _ t u) (λ x=>Kg x) q⟩
 |_=>exact go h
def oR(R:Rel J c s){v:V}{x:Value}{b:Bool}(r:aE c s.heap v x)(h:xl v=some b):PySem.plainIs x .none=true/\(x== .none)=b:=by induction v using vC with
 |none=>obtain rfl:=aN h;refine r.symm▸?_;exact⟨rfl,rfl⟩
 |bool _=>obtain rfl:=aN h;exact r▸⟨rfl,rfl⟩
 |int _=>obtain rfl:=aN h;obtain⟨t,rfl⟩:=r;exact⟨rfl,rfl⟩
 |str _=>obtain rfl:=aN h;obtain⟨t,rfl⟩:=r;exact⟨rfl,rfl⟩
 |bytes _=>obtain rfl:=aN h;obtain⟨D,t,rfl⟩:=r;exact⟨rfl,rfl⟩
 |ref _=>obtain rfl:=aN h;obtain⟨D,rfl⟩:=r;exact⟨rfl,rfl⟩
 |list _=>obtain rfl:=aN h;obtain⟨a,f,rfl,D⟩:=r;exact⟨rfl,rfl⟩
 |tuple _=>obtain rfl:=aN h;obtain⟨a,f,rfl,D⟩:=r;exact⟨rfl,rfl⟩
 |glob _=>obtain rfl:=aN h;exact r▸⟨rfl,rfl⟩
 |ty _=>obtain rfl:=aN h;exact r▸⟨rfl,rfl⟩
 |bi _=>exact nn h|bm _=>exact nn h
 |it _=>exact nn h|lh _=>exact nn h
 |aC=>exact nn h
noncomputable def tys:List Ty:=[.int,.bytes,.bytearray,.str,.bool,.list,.tuple,.set,.type,.range,.zip,.enumerate,.float,.complex,.dict,.frozenset,.none,.lQ,.iO]
def Ty.mem(a:Ty):a∈tys:=by induction a<;>decide
def Kl:(tys.all λ a=>tys.all λ b=> !decide (a.name=b.name)||decide (a=b))=true:=by decide+kernel
def Ty.Gw{a b:Ty}(h:a.name=b.name):a=b:=by have q:=fE.mp (fE.mp Kl a a.mem) b b.mem;rw[af h]at q;exact ae q
def zf(R:Rel J c s){v w:V}{x y:Value}{b:Bool}(o:aE c s.heap v x)(i:aE c s.heap w y)(h:TO v w=some b):PySem.plainIs x y=true/\(x==y)=b:=by induction w using vC with
 |none=>exact i▸oR R o h|ty t=>refine i.symm▸?_;induction v using vC with
  |none=>obtain rfl:=aN h;exact o▸⟨rfl,rfl⟩
  |ty E=>obtain rfl:=aN h;refine o.symm▸?_;refine⟨rfl,?_⟩;by_cases e:E=t;subst e;rw[af rfl];exact f9 _;exact cJ e▸lH.mpr λ q=>e (Ty.Gw (Value.type.inj q))
  |_=>first|exact nf h|exact nn h|subst h
 |_=>first|exact nf h|exact nn h|subst h
open PySem.SeqAt in
def Eo{v w:V}{x y:Value}{b:Bool}(q:aE c s.heap v x)(o:aE c s.heap w y)(h:Wa v w=some b):EqAt A s x y (jt x y)/\jt x y=b:=by induction v using vC with
 |bool a=>obtain⟨i,e,rfl⟩:=dR.mp h;cases V.tc e;refine q.symm▸o.symm▸?_;exact⟨EqAt.bool_bool _ _,rfl⟩
 |int a=>obtain⟨i,e,rfl⟩:=dR.mp h;cases V.gG e;obtain⟨t,rfl⟩:=q;obtain⟨u,rfl⟩:=o;exact⟨EqAt.int_int _ _ _ _,rfl⟩
 |str a=>obtain⟨i,e,rfl⟩:=dR.mp h;cases V.oO e;obtain⟨t,rfl⟩:=q;obtain⟨u,rfl⟩:=o;exact⟨EqAt.str_str _ _ _ _,ql _ _⟩
 |_=>first|exact nf h|exact nn h|subst h
open PySem.SeqAt in
def vg{v:V}{x:Value}(r:aE c s.heap v x){vs:aw}{f:aI}{b:Bool}(E:aA c s.heap vs f)(h:iq v vs=some b):(∀y,y∈f.toArray->EqAt A.in1 s y x (jt y x))/\f.toArray.any (jt · x)=b:=by
 suffices∀{b},iq v vs=some b->(∀y∈f,EqAt A.in1 s y x (jt y x))/\f.any (jt · x)=b from have z:=this h
  ⟨λ y T=>z.1 y (List.mem_toArray.mp T),(List.any_toArray ..).trans z.2⟩
 exact E.ind (P:=λ vs f=>∀{b},iq v vs=some b->(∀y∈f,EqAt A.in1 s y x (jt y x))/\f.any (jt · x)=b) (λ h=>⟨λ y T=>(mn T),aN h⟩) λ w vs y f o E g b h=>by obtain⟨a,k,h⟩:=bind_some h;obtain⟨M,d,h⟩:=dR.mp h;have i:=g d;have j:=Eo (A:=A.in1) o r k;exact⟨λ z U=>(aT.mp U).elim (λ e=>e▸j.1) (i.1 z),by refine List.any_cons.symm▸j.2.symm▸i.2.symm▸?_;exact h⟩
def sx(R:Rel J c s){b:Addr}(h:J.h₀.objs.size<=b)(H:sysModules<J.h₀.objs.size):(b==sysModules)=false:=by apply lH.mpr;intro q;rw[q]at h;exact aD h H
inductive zg:CmpOp->Bool->Bool->Prop
 |is (b:Bool):zg .In b b
 |no (b:Bool):zg .NotIn b (!b)
def zg.both{e:CmpOp}{b q:Bool}(h:zg e b q){G:Bool->Prop}{P:CmpOp->Prop}(g:G q)(M:G b->P .In)(N:G (!b)->P .NotIn):P e:=by induction h using zg.casesOn with
 |is b=>exact M g|no b=>exact N g
def zh{T:String}(I:T="list"\/T="tuple"){v:V}{x:Value}{vs:aw}{a:Addr}{g:aI}{b q:Bool}{e:CmpOp}(r:aE c s.heap v x)(U:SeqAt s.heap T a g)(m:aA c s.heap vs g)(h:iq v vs=some b)(k:zg e b q)(f:∀{tk:Nat},gj J c s Q (.bool q) {s with toks:=tk}):bA J A E c s (compareOp e x (.ref a)) Q:=by have i:=vg (A:=A) r m h;rw[<-i.2]at k;rcases I with rfl|rfl;exact k.both (G:=λ q=>∀{tk:Nat},gj J c s Q (.bool q) {s with toks:=tk}) (P:=λ e=>bA J A E c s (compareOp e _ _) Q) f (λ f=>PySem.SeqAt.in_listAt _ U.isList i.1 (f (tk:=s.toks))) λ f=>PySem.SeqAt.notIn_listAt _ U.isList i.1 (f (tk:=s.toks));exact k.both (G:=λ q=>∀{tk:Nat},gj J c s Q (.bool q) {s with toks:=tk}) (P:=λ e=>bA J A E c s (compareOp e _ _) Q) f (λ f=>PySem.SeqAt.in_tupleAt _ U.fK i.1 (f (tk:=s.toks))) λ f=>PySem.SeqAt.notIn_tupleAt _ U.fK i.1 (f (tk:=s.toks))
def NF(R:Rel J c s)(H:sysModules<J.h₀.objs.size){i:Nat}{k:Int}{t:Tok}{b q:Bool}{U:CmpOp}(hi:i<c.Y.n)(h:Qo (c.Y.f i) k=some b)(a:zg U b q)(f:∀{tk:Nat},gj J c s Q (.bool q) {s with toks:=tk}):bA J A E c s (compareOp U (.int k t) (.ref (c.ρ i))) Q:=by have j:=R.obj i hi;have u:(intKind J.prog J.w).is k (.int k t)=true:=f9 k;generalize e:c.Y.f i=o at h j;induction o with
 |dict bJ ep=>
  obtain⟨hf,I,M,L⟩:=j;have lk:=c6.lookup (k:=k) L;have n:(valueAt I k).isSome=b:=by refine(aN h)▸?_;cases d:bJ.lookup k with
   |none=>refine(lk.2 d).symm▸?_;rfl|some v=>obtain⟨x,C,D⟩:=lk.1 v d;refine C.symm▸?_;rfl
  have g:(c.ρ i==sysModules)=false:=sx R (R.high _ ⟨i,⟨hi,by refine e.symm▸?_;exact od⟩,by exact hf▸.head _⟩).1 H;rw[<-n]at a;exact a.both (G:=λ q=>∀{tk:Nat},gj J c s Q (.bool q) {s with toks:=tk}) (P:=λ U=>bA J A E c s (compareOp U _ _) Q) f (λ f=>wpAny_in_of u g M.dictOf.mapOf f) λ f=>wpAny_notIn_of u g M.dictOf.mapOf f
 |set xs=>obtain⟨hf,N,D⟩:=j;rw[<-aN h]at a;exact a.both (G:=λ q=>∀{tk:Nat},gj J c s Q (.bool q) {s with toks:=tk}) (P:=λ U=>bA J A E c s (compareOp U _ _) Q) f (λ f=>wpAny_inSet_of u rfl N f) λ f=>wpAny_notInSet_of u rfl N f
 |_=>exact nn h
def zj(R:Rel J c s)(H:sysModules<J.h₀.objs.size){v w:V}{x y:Value}{b:Bool}(o:aE c s.heap v x)(U:aE c s.heap w y)(h:TP c.Y v w=some b){N:CmpOp}{q:Bool}(M:zg N b q)(L:Q (.bool q) c.Y):bA J A E c s (compareOp N x y) Q:=by have fin:∀{tk:Nat},(gj J c s Q (.bool q) {s with toks:=tk}):=λ{tk}=>⟨c,.bool q,Step.toks R _,rfl,L⟩;induction w using vC with
 |str l=>obtain⟨u,rfl⟩:=U;obtain⟨k,e,C⟩:=dR.mp h;obtain⟨z,e,d⟩:=bind_some e;rw[V.oO e,NC d]at o;obtain⟨t,rfl⟩:=o;rw[<-C,<-Kk]at M;exact M.both (G:=λ q=>∀{tk:Nat},gj J c s Q (.bool q) {s with toks:=tk}) (P:=λ N=>bA J A E c s (compareOp N _ _) Q) fin (λ f=>P.in_str (f (tk:=s.toks))) λ f=>P.notIn_str (f (tk:=s.toks))
 |tuple vs=>obtain⟨a,m,rfl,I,D,g⟩:=U;exact zh (.inr rfl) o I g h M fin
 |list vs=>obtain⟨a,m,rfl,I,D,g⟩:=U;exact zh (.inl rfl) o I g h M fin
 |ref i=>obtain⟨k,e,h'⟩:=bind_some h;rw[V.gG e]at o;obtain⟨t,rfl⟩:=o;exact U.2▸NF R H U.1 h' M fin
 |_=>exact nn h
def mH(R:Rel J c s)(H:sysModules<J.h₀.objs.size)(M:A.units+10<cLine){U:CmpOp}{v w:V}{x y:Value}{b:Bool}(o:aE c s.heap v x)(a:aE c s.heap w y)(h:qm c.Y U v w=some b)(k:Q (.bool b) c.Y):bA J A E c s (compareOp U x y) Q:=by have f:∀{q:Bool},q=b->(gj J c s Q (.bool q) s):=λ e=>⟨c,.bool b,.refl R,by refine e.symm▸?_;rfl,k⟩;induction U with
 |Eq=>exact(Gv M o a h).1 _ _ _ _ (f rfl)|NotEq=>obtain⟨N,h',rfl⟩:=dR.mp h;exact(Gv M o a h').2 _ _ _ _ (f rfl)
 |Lt=>obtain⟨i,j,rfl,rfl,rfl⟩:=mG h;obtain⟨t,rfl⟩:=o;obtain⟨u,rfl⟩:=a;exact P.lt_int (f rfl)
 |LtE=>obtain⟨i,j,rfl,rfl,rfl⟩:=mG h;obtain⟨t,rfl⟩:=o;obtain⟨u,rfl⟩:=a;exact P.le_int (f rfl)
 |Gt=>obtain⟨i,j,rfl,rfl,rfl⟩:=mG h;obtain⟨t,rfl⟩:=o;obtain⟨u,rfl⟩:=a;exact P.gt_int (f rfl)
 |GtE=>obtain⟨i,j,rfl,rfl,rfl⟩:=mG h;obtain⟨t,rfl⟩:=o;obtain⟨u,rfl⟩:=a;exact P.ge_int (f rfl)
 |Is=>obtain⟨m,l⟩:=zf R o a h;exact wpAny_is_plain m (f l)
 |IsNot=>obtain⟨N,h',rfl⟩:=dR.mp h;obtain⟨m,l⟩:=zf R o a h';exact wpAny_isNot_plain m (f (by exact l.symm▸rfl))
 |In=>exact zj R H o a h (.is _) k|NotIn=>obtain⟨N,h',rfl⟩:=dR.mp h;exact zj R H o a h' (.no _) k
noncomputable def idx{α:Type}(vs:List α)(i:Int):Option α:=if decide (0<=i)then vs[i.toNat]?else if decide (-(vs.length:Int)<=i)then vs[(i+vs.length).toNat]?else none
noncomputable def iQ(Y:Mem)(o:V)(i:V):Option V:=match i with
 | .int i=>match o with
  | .tuple vs=>if decide (vs.length<=1000000)then idx vs i else none| .str l=>if decide (l.length<=1000000)then(idx l i).map λ k=> .str [k]else none
  | .bytes l=>if decide (l.length<=1000000)&&decide (0<=i)then(l[i.toNat]?).map (λ(k:Nat)=>V.int (k:Int))else none| .list vs=>if decide (vs.length<=1000000)then idx vs i else none
  | .ref j=>match Y.f j with
   | .list vs=>if decide (vs.length<=1000000)then idx vs i else none| .dict bJ _=>bJ.lookup i
   |_=>none
  |_=>none
 |_=>none
noncomputable def nB(n:Nat)(d:Nat)(i:Option Int):Nat:=i.elim d (clipAt n)
noncomputable def cg{α:Type}(vs:List α)(lo hi:Option Int):List α:=(vs.drop (nB vs.length 0 lo)).take (nB vs.length vs.length hi-nB vs.length 0 lo)
noncomputable def qo(Y:Mem)(o:V)(lo hi:Option Int):Option V:=match o with
 | .str l=>if decide (l.length<=1000000)then some (.str (cg l lo hi))else none|o=>match bD Y o with
  |some vs=>if decide (vs.length<=1000000)then some (.list (cg vs lo hi))else none|none=>none
def q8(s:Shared)(o:Value):Prop:=∃T id,s.TypeIs o T/\typeLookup (.type T) "__getitem__"=pure (some (.builtin id))/\o≠.builtin "sys.modules#opaque"
def q8.not{o:Value}(g:q8 s o){M:Model}{Q:Bool->Shared->Prop}(h:Q false s):wpAny M A (getitemInPython o) Q E s:=by obtain⟨T,id,G,I,n⟩:=g;exact getitemInPython_of_ne n▸ag (wpAny_specialOf G I (ax h))
def oS{M:Model}{slice:Expr}{o i:Value}{Q:dM}(h:wpAny M A (getItem o i) Q E s):wpAny M A (subscripted slice false o i) Q E s:=by
 have e:∀l,wpAny M A (operate l (getItem o i)) Q E s:=λ l k p c=>by rw[Sem.wp_operate];exact h k p c
 induction slice using wa with
 |Slice a b st p=>induction st<;>exact e _
 |_=>exact e _
def oU{value slice:Expr}{pos:Pos}{P:fA}{P':V->fA}(h:bA J A E c s (eval value env) P)(H:∀x v c₁ f,Step J c s c₁ f cN->aE c₁ f.heap v x->P v c₁.Y->wpAny J.ay A (eval slice env) (λ y U=>∃c₂,Step J c₁ f c₂ U cN/\q8 U x/\bA J A E c₂ U (getItem x y) Q) E f):bA J A E c s (eval (.Subscript value slice pos) env) Q:=by rw[arm_eval_Subscript];refine ag (aW h (λ x f L=> ?_) λ D D e=>e);obtain⟨c₁,v,S,r,p⟩:=L;refine ag (bB (aW (H x v c₁ f S r p) (λ y U T=> ?_) λ D D e=>e));obtain⟨c₂,k,g,he⟩:=T;refine ag (cP (ag (g.not (ag (oS (aW he (λ z j M=> ?_) λ D D e=>e))))));obtain⟨G,w,m,b,q⟩:=M;exact ag (wpAny_letTemporaryGo (ax ⟨G,w,S.trans (k.trans m),b,q⟩))
def SeqAt.typeIs{a:Addr}{f:aI}{T:String}(x:SeqAt h T a f)(e:s.heap=h):s.TypeIs (.ref a) T:=let⟨n,q⟩:=x;⟨_,e▸q,rfl⟩
def nR{a:Addr}{f:aI}(x:SeqAt s.heap "list" a f):q8 s (.ref a):=⟨"list",_,x.typeIs rfl,slot_list_getitem.lookup,Kg⟩
def zl{a:Addr}{f:aI}(x:SeqAt s.heap "tuple" a f):q8 s (.ref a):=⟨"tuple",_,x.typeIs rfl,F.slot_tuple_getitem.lookup,Kg⟩
def wo{x:Str}{t:Tok}:q8 s (.str x t):=⟨"str",_,rfl,F.slot_str_getitem.lookup,Kg⟩
def zm{x:Array UInt8}{t:Tok}:q8 s (.bytes x t):=⟨"bytes",_,rfl,FB.slot_bytes_getitem.lookup,Kg⟩
def ifs{α:Type}{b:Bool}{x:Option α}{v:α}(h:(if b then x else none)=some v):b=true/\x=some v:=by induction b<;>first|exact nn h|exact⟨rfl,h⟩
inductive Gx{α:Type}(vs:List α)(v:α):Int->Prop
 |pos (k:Nat) (e:vs[k]? =some v):Gx vs v (k:Int)
 |neg (i:Int) (h0:i<0) (h1: -(vs.length:Int)<=i) (e:vs[(i+vs.length).toNat]? =some v):Gx vs v i
def Gy{α:Type}{vs:List α}{i:Int}{v:α}(h:idx vs i=some v):Gx vs v i:=by unfold idx at h;by_cases q:(0:Int)<=i;rw[ar (af q)]at h;obtain⟨k,rfl⟩:=Int.eq_ofNat_of_zero_le q;exact .pos k h;rw[au λ d=>q (ae d)]at h;have h:=ifs h;exact .neg i (Int.not_le.mp q) (ae h.1) h.2
def Qr{k n:Nat}(M:k<n)(N:n<=1000000):(k:Int)<2^63:=Int.lt_trans (oH.mpr (ai M N)) dD
def Qs{n:Nat}{i:Int}(N:n<=1000000)(M: -(n:Int)<=i): -2^63<=i:=Int.le_trans (Int.le_trans (by decide:(-2^63:Int)<= -((1000000:Nat):Int)) (Int.neg_le_neg (gb.mpr N))) M
def tf{α:Type}{l:List α}{k:Nat}{v:α}(h:l[k]? =some v):k<l.length:=(List.getElem?_eq_some_iff.mp h).1
def zo(R:Rel J c s){a:Addr}{vs:aw}{f:aI}{i:Int}{t:Tok}{v:V}(U:SeqAt s.heap "list" a f)(g:aA c s.heap vs f)(I:vs.length<=1000000)(h:idx vs i=some v)(q:Q v c.Y):bA J A E c s (getItem (.ref a) (.int i t)) Q:=by cases Gy h with
 |pos k e=>obtain⟨x,L,r⟩:=g.get e;exact wpAny_getItem_list U.isList (dN k) (Qr (tf e) I) (hY.trans L) ⟨c,v,.refl R,r,q⟩
 |neg _ o M e=>obtain⟨x,L,r⟩:=g.get e;exact wpAny_getItem_list_neg U.isList o (by refine(?_: -(f.length:Int)<=i);exact g.length▸M) (Qs I M) (by refine(?_:f.toArray[(i+(f.length:Int)).toNat]? =_);exact g.length▸hY.trans L) ⟨c,v,.refl R,r,q⟩
structure Qt{α:Type}(vs:List α)(i:Int)(v:α)(k:Nat):Prop where
 sk:seqIndex? i vs.length=some k
 e:vs[k]? =some v
 lo: -2^63<=i
 hi:i<2^63
def MA{α:Type}{vs:List α}{i:Int}{v:α}(I:vs.length<=1000000)(h:idx vs i=some v):∃k,Qt vs i v k:=by cases Gy h with
 |pos k e=>exact⟨k,StrLaws.seqIndex_nonneg (dN k) (oH.mpr (tf e)),e,Int.le_trans dD (dN k),Qr (tf e) I⟩|neg _ Q M e=>exact⟨_,StrLaws.seqIndex_neg Q M,e,Qs I M,Int.lt_trans Q dD⟩
def Ep(R:Rel J c s){o i v:V}{x y:Value}(b:aE c s.heap o x)(H:aE c s.heap i y)(h:iQ c.Y o i=some v)(q:Q v c.Y):q8 s x/\bA J A E c s (getItem x y) Q:=by induction i using vC with
 |int i=>obtain⟨t,rfl⟩:=H;induction o using vC with
  |tuple vs=>have h:=ifs h;have U:=ae h.1;obtain⟨a,g,rfl,e,D,f⟩:=b;obtain⟨k,I⟩:=MA U h.2;obtain⟨z,M,r⟩:=f.get I.e;obtain⟨n,m⟩:=id e;exact⟨zl e,P.getItem_tuple m I.lo I.hi (by refine cf.symm▸f.length▸?_;exact I.sk) (hY.trans M) ⟨c,v,.refl R,r,q⟩⟩
  |str l=>obtain⟨u,rfl⟩:=b;have h:=ifs h;obtain⟨k,L,rfl⟩:=dR.mp h.2;obtain⟨j,I⟩:=MA (ae h.1) L;refine⟨wo,P.getItem_str (c:=k) ?_ ?_ ⟨c,.str [k],Step.toks R _,⟨_,rfl⟩,q⟩⟩;refine(cJ (Int.not_lt.mpr I.lo)).symm▸(cJ (Int.not_le.mpr I.hi)).symm▸?_;rfl;rw[aP,I.sk];exact hY.trans I.e
  |bytes l=>obtain⟨C,u,rfl⟩:=b;have h:=ifs h;have U:=ao h.1;have N:=ae U.2;obtain⟨k,L,rfl⟩:=dR.mp h.2;have w:=tf L;have p:k<256:=C k (nr L);refine⟨zm,getItem_bytes (l:=l.map UInt8.ofNat) (by rw[a7];exact aa (ae U.1) dD) N (by rw[a7];exact(Int.toNat_lt N).mp w) ⟨c,.int k,Step.toks R _,⟨s.toks,?_⟩,q⟩⟩;refine(jX).symm▸(gL).symm▸L.symm▸?_;exact aF (λ n:Nat=>Value.int (n:Int) s.toks) ((UInt8.toNat_ofNat' ..).trans (oJ p))
  |list vs=>have h:=ifs h;obtain⟨a,g,rfl,e,D,f⟩:=b;exact⟨nR e,zo R e f (ae h.1) h.2 q⟩
  |ref j=>obtain⟨T,rfl⟩:=b;have d:=R.obj j T;have h:(match c.Y.f j with| .list vs=>if decide (vs.length<=1000000)then idx vs i else none| .dict bJ _=>bJ.lookup i|_=>none)=some v:=h;generalize c.Y.f j=oj at d h;induction oj with
   |list vs=>have h:=ifs h;obtain⟨D,g,e,f⟩:=d;exact⟨nR e,zo R e f (ae h.1) h.2 q⟩
   |dict bJ ep=>obtain⟨D,kx,G,kr⟩:=d;obtain⟨z,M,r⟩:=(c6.lookup kr).1 v h;obtain⟨o,es,eo,ed,D⟩:=id G;exact⟨⟨"dict",_,⟨o,eo,ed.1⟩,F.slot_dict_getitem.lookup,Kg⟩,wpAny_getItem_of (knd:=intKind J.prog J.w) (k:=i) (f9 i) G.dictOf.mapOf M ⟨c,v,Step.toks R _,r,q⟩⟩
   |_=>exact nn h
  |_=>exact nn h
 |_=>exact nn h
def aA.reverse{vs:aw}{xs:aI}(r:aA c h vs xs):aA c h vs.reverse xs.reverse:=r.ind (P:=λ vs xs=>aA c h vs.reverse xs.reverse) trivial λ v vs x xs r D z=>by refine nu.symm▸nu.symm▸?_;exact z.append ⟨r,trivial⟩
def aA.slice{vs:aw}{xs:aI}(r:aA c h vs xs)(lo hi:Option Int):aA c h (cg vs lo hi) (cg xs lo hi):=by delta cg;exact r.length▸(r.drop _).take _
def Km{vs:aw}{f:aI}(E:aA c h vs f)(I:vs.length<=1000000):f.toArray.size<=sizeLine:=by refine cf.symm▸E.length▸aK.symm▸?_;exact aa I dD
def slice_list(R:Rel J c s){a L:Addr}{vs:aw}{f:aI}{x y:Value}{lo hi:Option Int}(e:SeqAt s.heap "list" a f)(g:aA c s.heap vs f)(I:vs.length<=1000000)(o:s.heap.IsSliceOf L x y .none)(H:IsPart x lo)(T:IsPart y hi)(q:Q (.list (cg vs lo hi)) c.Y):bA J A E c s (getItem (.ref a) (.ref L)) Q:=by refine wpAny_getItem_list_slice e.isList o H T .none nn ?_ (Km g I);rw[slicePick_plain];exact oM R (t:=s.toks) (g.slice lo hi) q
def Gz{α I:Type}{f g:α->Option I}{l:List α}:(∀x∈l,f x=g x)->l.filterMap f=l.filterMap g:=by induction l with
 |nil=>exact λ D=>rfl|cons x l z=>exact λ h=>by rw[List.filterMap_cons,List.filterMap_cons,h x (.head _),z λ y T=>h y (.tail _ T)]
def Kn(n:Nat)(i:Int):clipAt n i<=n:=Int.toNat_le.mpr (Int.max_le.mpr ⟨dN n,Int.min_le_right _ _⟩)
def zq{n d:Nat}(hd:d<=n)(i:Option Int):nB n d i<=n:=by induction i with
 |none=>exact hd|some i=>exact Kn n i
def Er(R:Rel J c s){L:Addr}{l:aj}{t:Tok}{lo hi:Option (Int×Tok)}(I:l.length<=1000000)(o:s.heap.IsSlice L lo hi none)(q:Q (.str (cg l (lo.map (·.1)) (hi.map (·.1)))) c.Y):bA J A E c s (getItem (.str (strOf l) t) (.ref L)) Q:=by
 apply wpAny_getItem_str_slice o rfl;have a:slicePicked (strOf l) lo hi none=sliceRange (nB l.length 0 (lo.map (·.1)):Nat) (nB l.length l.length (hi.map (·.1)):Nat) 1:=by refine(?_:sliceRange (sliceBounds (lo.map (·.1)) (hi.map (·.1)) none (strOf l).length).1 (sliceBounds (lo.map (·.1)) (hi.map (·.1)) none (strOf l).length).2.1 1=_);rw[aP,sliceBounds_plain];rfl
 rw[sliceRange_one]at a;have U:=zq (ah l.length) (hi.map (·.1));have i:=zq (cI l.length) (lo.map (·.1));have d:(slicePicked (strOf l) lo hi none).filterMap ((strOf l).cps[·]?)=cg l (lo.map (·.1)) (hi.map (·.1)):=by refine a.symm▸?_;refine(Gz (g:=(l[·]?)) λ D D=>hY).trans ?_;rcases Nat.le_total (nB l.length 0 (lo.map (·.1))) (nB l.length l.length (hi.map (·.1)))with h|h;exact StrLaws.picks l _ _ (by refine(oK h).symm▸?_;exact U);delta cg;rw[Nat.sub_eq_zero_of_le h,List.take_zero];rfl
 delta sliceMade;by_cases m:((Option.map (λ x:Int×Tok=>x.1) none).getD 1==1&&(slicePicked (strOf l) lo hi none).length==(strOf l).length)=true;rw[ar m];have hlen:=bc (ao m).2;rw[a,aP,a7,eB]at hlen;have M:nB l.length l.length (hi.map (·.1))=l.length:=w4 U (aa (bO hlen.symm) (iK _ _));rw[M]at hlen;have v:nB l.length 0 (lo.map (·.1))=0:=Nat.eq_zero_of_not_pos λ p=>az (Nat.sub_lt (ai p i) p) hlen;have:cg l (lo.map (·.1)) (hi.map (·.1))=l:=by delta cg;rw[v,M,List.drop_zero,Nat.sub_zero,List.take_length]
 rw[this]at q;exact⟨c,.str l,.refl R,⟨t,rfl⟩,q⟩;refine(au m).symm▸d.symm▸?_;exact⟨by refine(?_:(strOf _).length<=sizeLine);rw[aP,aK];skip;refine List.length_take.symm▸fk.symm▸?_;exact aa (aa (Nat.min_le_right _ _) (iK _ _)) (aa I dD),⟨c,.str (cg l (lo.map (·.1)) (hi.map (·.1))),Step.toks R _,⟨s.toks,rfl⟩,q⟩⟩
def th(x:aj):∀(n:Nat)(z:Array Nat),(List.foldl (λ(f H:Array Nat)=>f++H) z (List.replicate n x.toArray))=z++((List.replicate n x).flatten).toArray
 |0,z=>by rfl|n+1,z=>by rw[qW,List.foldl_cons,th x n,qW,List.flatten_cons];simp
def aA.rep{vs:aw}{xs:aI}(r:aA c h vs xs):∀n:Nat,aA c h (List.replicate n vs).flatten (List.replicate n xs).flatten
 |0=>trivial|n+1=>by rw[qW,qW,List.flatten_cons,List.flatten_cons];exact r.append (aA.rep r n)
def oV{prog:Program}{w:World}{l:Addr}{items:Array Value}{n:Nat}{x:Int}{u:Tok}{Q:dM}(I:IsL s.heap l items n)(q:0<=x)(M:x<=1000)(N:items.size<=1000)(h:Q (.ref s.heap.objs.size) {s with heap:=s.heap.push {cls:= .type "list",data:= .seq (List.replicate x.toNat items.toList).flatten.toArray}}):wpAny (model prog w) A (binaryOp .Mult (.ref l) (.int x u)) Q E s:=by
 have hm:items.size*x.toNat<=1000*1000:=Nat.mul_le_mul N (by omega);have d:(List.foldl (λ(f H:Array Value)=>f++H) #[] (List.replicate (if items.isEmpty=true then 0 else x.toNat) items))=(List.replicate x.toNat items.toList).flatten.toArray:=by
  have key:∀(n:Nat)(z:Array Value),List.foldl (λ(f H:Array Value)=>f++H) z (List.replicate n items)=z++(List.replicate n items.toList).flatten.toArray:=by intro n;induction n with
   |zero=>intro z;rfl|succ n y=>intro z;rw[qW,List.foldl_cons,y,qW,List.flatten_cons,Array.append_assoc];congr 1;apply Array.ext';simp
  split;rename_i he;have:items= #[]:=by simpa using he
  subst this;have:∀n:Nat,(List.replicate n ([]:aI)).flatten=[]:=λ n=>by induction n with|zero=>rfl|succ n y=>rw[qW,List.flatten_cons,y];rfl
  simp[this];rw[key];simp
 rw[<-d]at h;exact wpAny_binaryOp_repeat_ref (T:="list") (U:="int") dD ⟨_,I,rfl⟩ (λ s'=>typeIs_int s' x u) noFill_list_mul F.fills_int_mul F.slot_int_rmul repeat_list F.slot_int_index.lookup (jY F.slot_int_rmul (typeIs_int s x u) F.entry_int_rmul (F.args_int_rmul_2 _ _) (int___rmul___int_list x u l items n) ⟨I,rfl,⟨_,I,rfl⟩,jY F.slot_list_mul ⟨_,I,rfl⟩ F.entry_list_mul (F.args_list_mul_2 _ _) (AutoListH.list___mul___list_int_3 l items n x u (by simp[Builtin.List.listFitsIndex];omega) (by omega) (by simp[Builtin.List.listTooLong,sizeLine];exact aa hm dD)) ⟨I,h⟩⟩)
def Bp(R:Rel J c s){a:aj}{i:Int}{t u:Tok}(o:0<=i)(M:i<=1000)(N:a.length<=1000)(q:Q (.str (List.replicate i.toNat a).flatten) c.Y):bA J A E c s (binaryOp .Mult (.str (strOf a) t) (.int i u)) Q:=by
 have hm:a.length*i.toNat<=1000*1000:=Nat.mul_le_mul N (by omega);have fin:∀{y:Tok}{tk:Nat}{z:Str},z=strOf (List.replicate i.toNat a).flatten->(gj J c s Q (.str z y) {s with toks:=tk}):=λ{y tk z} e=>⟨c,.str (List.replicate i.toNat a).flatten,Step.toks R _,⟨y,by rw[e]⟩,q⟩;refine P.mul_str ?_ ?_ ?_ ?_;rw[Bool.or_eq_false_iff];exact⟨cJ (by omega),cJ (by omega)⟩;intro j _ C;rw[aP]at C;have U:(1000:Int)<=(2^63-1)/i:=(Int.le_ediv_iff_mul_le (by omega)).mpr (by omega);omega;intro _ _;rw[aP];exact cJ (by rw[aK];omega);split;have:i.toNat=0:=by omega
 refine⟨by refine(?_:0<=_);exact hV _ _,fin ?_⟩;rw[this];rfl;split;rename_i f;rw[Bool.or_eq_true,cZ,cZ,aP]at f;have e:(List.replicate i.toNat a).flatten=a:=by
  rcases f with rfl|f;exact dw _;have:a=[]:=List.eq_nil_of_length_eq_zero f;subst this;have:∀n:Nat,(List.replicate n ([]:aj)).flatten=[]:=λ n=>by induction n with|zero=>rfl|succ n g=>rw[qW,List.flatten_cons,g];rfl
  exact this _
 rw[e]at q;exact⟨c,.str a,.refl R,⟨t,rfl⟩,q⟩;refine⟨?_,fin ?_⟩;refine(?_:(Str.mk _).length<=sizeLine);have:(strOf a).cps=a.toArray:=rfl;rw[this,th];simp only[Str.length,Array.size_append,cf,List.length_flatten,List.map_replicate,List.sum_replicate_nat,List.length_nil,aK];rw[Nat.mul_comm];omega;have:(strOf a).cps=a.toArray:=rfl;rw[this,th];simp[strOf]
def Es(R:Rel J c s){v w r:V}{x y:Value}(o:aE c s.heap v x)(i:aE c s.heap w y)(h:Gn c.Y v w=some r)(q:Q r c.Y):bA J A E c s (binaryOp .Add x y) Q:=by
 have H:Qk (bD c.Y v) (bD c.Y w)=some r->bA J A E c s (binaryOp .Add x y) Q:=λ h=>by cases k:bD c.Y v with
  |none=>rw[k]at h;exact nn h|some xs=>cases d:bD c.Y w with
   |none=>rw[k,d]at h;exact nn h|some ys=>rw[k,d]at h;obtain⟨U,rfl⟩:=bb h;exact za R o i k d (ae U) q
 induction v using vC with
 |str a=>obtain⟨b,e,h⟩:=bind_some h;cases V.oO e;obtain⟨t,rfl⟩:=o;obtain⟨u,rfl⟩:=i;obtain⟨U,rfl⟩:=bb h;exact Bk R (ae U) q
 |bytes a=>obtain⟨b,e,h⟩:=bind_some h;cases V.iC e;obtain⟨C,t,rfl⟩:=o;obtain⟨M,u,rfl⟩:=i;obtain⟨U,rfl⟩:=bb h;exact xg R C M (ae U) q
 |_=>exact H h
def Et(R:Rel J c s){v r:V}{i:Int}{x:Value}{u:Tok}(o:aE c s.heap v x)(h:Gp c.Y v i=some r)(q:Q r c.Y):bA J A E c s (binaryOp .Mult x (.int i u)) Q:=by
 have C:mulL (bD c.Y v) i=some r->bA J A E c s (binaryOp .Mult x (.int i u)) Q:=λ h=>by cases k:bD c.Y v with
  |none=>rw[k]at h;exact nn h|some xs=>rw[k]at h;obtain⟨U,rfl⟩:=bb h;replace U:=(ao U).imp ae λ h=>(ao h).imp ae ae;obtain⟨a,g,rfl,⟨n,e⟩,f⟩:=cu R o k;refine oV e U.1 U.2.1 (by rw[cf,<-f.length];exact U.2.2) ?_;exact oM R (t:=s.toks) (f.rep i.toNat) q
 induction v using vC with
 |str a=>obtain⟨U,rfl⟩:=bb h;replace U:=(ao U).imp ae λ h=>(ao h).imp ae ae;obtain⟨t,rfl⟩:=o;exact Bp R U.1 U.2.1 U.2.2 q
 |_=>exact C h
def Eu(R:Rel J c s){b:Operator}{v w r:V}{x y:Value}(o:aE c s.heap v x)(a:aE c s.heap w y)(h:lV c.Y b v w=some r)(q:Q r c.Y):bA J A E c s (binaryOp b x y) Q:=by unfold lV at h;cases e:v.int? with
 |some i=>rw[e]at h;obtain⟨j,d,h⟩:=bind_some h;cases V.gG e;cases V.gG d;obtain⟨t,rfl⟩:=o;obtain⟨u,rfl⟩:=a;obtain⟨z,U,rfl⟩:=dR.mp h;exact Nz R U q
 |none=>rw[e]at h;induction b with
  |Add=>exact Es R o a h q|Mult=>obtain⟨j,d,h⟩:=bind_some h;cases V.gG d;obtain⟨u,rfl⟩:=a;exact Et R o h q
  |_=>first|exact nf h|exact nn h|subst h
structure bp(J:Cx):Prop where
 Qv:∀a o,J.K.lookup a=some o->J.h₀.get? a=some o/\a≠J.P
 sys:sysModules<J.h₀.objs.size
 lim:∃o,J.K.lookup cStatics=some o/\o.data= .dict #[] 0
def Rel.K(R:Rel J c s)(ok:bp J):J.K.In s.heap:=λ a o e=>R.base a o (ok.Qv a o e).1 (ok.Qv a o e).2
def Rel.lim(R:Rel J c s)(ok:bp J):s.heap.NoLimit:=by obtain⟨o,e,hd⟩:=ok.lim;exact⟨λ D=>none,⟨o,#[],0,R.K ok _ _ e,hd,λ D h=>by simp at h,λ D=>rfl⟩,rfl⟩
noncomputable def instChk(K:Frag)(C:Addr):Bool:=findIn K (.ref C) "__getattribute__"==some (some (.builtin "object.__getattribute__"))&&findIn K (.ref C) "__getattr__"==some none&&findIn K (.ref C) "__setattr__"==some (some (.builtin "object.__setattr__"))&&plainOver K C&&(clsIn K C).any (·.hasDict)&&(List.range 9).all (λ k=>findIn K (.ref C) (attrName k)==some none)
structure ti(K:Frag)(C:Addr):Prop where
 ga:findIn K (.ref C) "__getattribute__"=some (some (.builtin "object.__getattribute__"))
 gk:findIn K (.ref C) "__getattr__"=some none
 sa:findIn K (.ref C) "__setattr__"=some (some (.builtin "object.__setattr__"))
 po:plainOver K C=true
 hd:hasDictIn K C=true
 B:∀k,k<9->findIn K (.ref C) (attrName k)=some none
def instOK_of{K:Frag}{C:Addr}(h:instChk K C=true):ti K C:=by unfold instChk at h;simp only[qX,cZ,fE,dY]at h;obtain⟨⟨⟨⟨⟨M,N⟩,j⟩,z⟩,U⟩,t⟩:=h;exact⟨M,N,j,z,U,t⟩
def tj{k j:Nat}{t:Tok}(u:k<9)(l:j<9):(Value.str (attrName k) t).isStr (attrName j)=decide (k=j):=by refine(?_:(attrName k==attrName j)=_);by_cases e:k=j;subst e;simp;refine(cJ e).symm▸?_;refine lH.mpr λ q=>e ?_;have:=xc ⟨k,u⟩ ⟨j,l⟩ q;simpa using this
def bL.keys:∀{as:List (Nat×V)}{es:List DictEntry},bL c h as es->∀e∈es,∃k t,k<9/\e.key= .str (attrName k) t
 |[],[],_,e,he=>by exact absurd he ck|(k,v)::as,M::es,r,e,he=>by rcases aT.mp he with rfl|he;obtain⟨t,I⟩:=r.2.1;exact⟨k,t,r.1,I⟩;exact bL.keys r.2.2.2 e he
 |[],_::_,r,_,_=>r.elim|_::_,[],r,_,_=>r.elim
def bL.find{k:Nat}(u:k<9){as:List (Nat×V)}{es:List DictEntry}(r:bL c h as es):(∀v,as.lookup k=some v->∃e,es.find? (·.key.isStr (attrName k))=some e/\aE c h v e.val)/\(as.lookup k=none->es.find? (·.key.isStr (attrName k))=none):=by induction as generalizing es with
 |nil=>induction es using lC with
  |nil=>exact⟨λ v e=>nn e,λ D=>rfl⟩|cons=>exact r.elim
 |cons a as y=>induction es using lC with
  |nil=>exact r.elim|cons e es=>obtain⟨j,v⟩:=a;obtain⟨l,⟨t,I⟩,Q,m⟩:=r;rw[fm,List.find?_cons,I,tj l u];by_cases q:j=k;rw[q,f9,af rfl];exact⟨λ w g=>⟨e,rfl,aN g▸Q⟩,λ g=>nn g.symm⟩;refine(lH.mpr λ z=>q z.symm).symm▸(cJ q).symm▸?_;exact y m
def bL.noRef{as:List (Nat×V)}{es:List DictEntry}(r:bL c h as es):es.any (·.refKey)=false:=by rw[List.any_eq_false];intro e he;obtain⟨k,t,D,u⟩:=r.keys e he;delta DictEntry.refKey;rw[u];exact λ h=>nf h
def bL.look{k:Nat}{ep:Nat}(u:k<9){as:List (Nat×V)}{es:List DictEntry}(r:bL c h as es):(∀v,as.lookup k=some v->∃x,lookIn (attrName k) (dictOf es ep)=some (some x)/\aE c h v x)/\(as.lookup k=none->lookIn (attrName k) (dictOf es ep)=some none):=by obtain⟨m,A⟩:=r.find u;unfold lookIn dictOf;dsimp only;refine⟨λ v e=> ?_,λ e=> ?_⟩;obtain⟨U,he,Q⟩:=m v e;exact he▸⟨_,rfl,Q⟩;refine(A e).symm▸?_;simp[r.noRef]
def zr{v:V}{x:Value}(r:aE c h v x):handedIn x=true:=by induction v using vC with
 |none=>refine r.symm▸?_;rfl|bool _=>refine r.symm▸?_;rfl
 |int _=>obtain⟨t,rfl⟩:=r;rfl
 |str _=>obtain⟨t,rfl⟩:=r;rfl
 |bytes _=>obtain⟨D,t,rfl⟩:=r;rfl
 |ref _=>obtain⟨D,rfl⟩:=r;rfl
 |list _=>obtain⟨a,f,rfl,D⟩:=r;rfl
 |tuple _=>obtain⟨a,f,rfl,D⟩:=r;rfl
 |glob _=>refine r.symm▸?_;rfl|ty _=>refine r.symm▸?_;rfl
 |bi b=>refine r.symm▸?_;induction b<;>decide+kernel
 |bm b=>refine r.symm▸?_;induction b<;>decide+kernel
 |it _=>exact r.elim|lh _=>exact r.elim
 |aC=>exact r.elim
def inst_at(R:Rel J c s){i C:Nat}{as:List (Nat×V)}(hi:i<c.Y.n)(e:c.Y.f i= .inst C as):∃d es ep,c.fp i=[c.ρ i,d]/\c.ρ i≠d/\s.heap.get? d=some (dictOf es ep)/\bL c s.heap as es/\InstAt s.heap (c.ρ i) (instObj C d) C (some (dictOf es ep)):=by have A:=R.obj i hi;rw[e]at A;obtain⟨d,es,ep,hf,ne,a,Q,r⟩:=A;exact⟨d,es,ep,hf,ne,Q,r,⟨a,rfl,rfl,Q⟩⟩
def tm(R:Rel J c s)(ok:bp J){i C k:Nat}{as:List (Nat×V)}{v:V}{b:Bool}(hi:i<c.Y.n)(e:c.Y.f i= .inst C as)(ic:ti J.K C)(u:k<9)(L:as.lookup k=some v)(q:Q v c.Y):bA J A E c s (getAttr (.ref (c.ρ i)) (attrName k) b) Q:=by obtain⟨d,es,ep,D,D,D,r,I⟩:=inst_at R hi e;obtain⟨x,H,o⟩:=(r.look (ep:=ep) u).1 v L;exact get_value (R.K ok) I ic.ga (findObj_own ic.hd (ic.B k u) rfl H) (zr o) ⟨c,v,Step.toks R _,o,q⟩
def Ko(J:Cx)(A:Around)(E:dM)(c:Vw)(s:Shared)(t:Sem Unit)(Q:Mem->Prop):Prop:=wpAny J.ay A t (y9 J c s λ D=>Q) E s
def Ko.go{t:Sem Unit}{Q:Mem->Prop}{P:Unit->Shared->Prop}(h:Ko J A E c s t Q)(f:∀u s' G,Step J c s G s' cN->Q G.Y->P u s'):wpAny J.ay A t P E s:=aW h (λ b s' ⟨G,S,q⟩=>f b s' G S q) λ D D z=>z
noncomputable def m7:List (Nat×V)->Nat->V->List (Nat×V)
 |[],k,v=>[(k,v)]|(j,w)::r,k,v=>if j=k then(j,v)::r else(j,w)::m7 r k v
def bL.put{k:Nat}{hash:Int}{t:Tok}{v:V}{x:Value}(L:k<9)(Q:aE c h v x){as:List (Nat×V)}{es:List DictEntry}(r:bL c h as es):bL c h (m7 as k v) (nsPutIn (attrName k).cps.size (attrName k).cps.toList (λ|some e=>{e with val:=x}|none=>⟨hash,.str (attrName k) t,x⟩) es).1:=by induction as generalizing es with
 |nil=>induction es using lC with
  |nil=>exact⟨L,⟨t,rfl⟩,Q,trivial⟩|cons=>exact r.elim
 |cons a as y=>induction es using lC with
  |nil=>exact r.elim|cons e es=>obtain⟨j,w⟩:=a;obtain⟨l,⟨u,i⟩,E,g⟩:=r;have y:=y g;unfold nsPutIn;refine(?_:bL c h (if j=k then(j,v)::as else(j,w)::m7 as k v) _);rw[Value.isStrByCps_eq,i,tj l L];by_cases q:j=k;refine(af q).symm▸(ar q).symm▸(ar rfl).symm▸?_;exact⟨l,⟨u,i⟩,Q,g⟩;refine(cJ q).symm▸(au q).symm▸(au iJ).symm▸?_;generalize nsPutIn (attrName k).cps.size (attrName k).cps.toList _ es=z at y⊢;exact⟨l,⟨u,i⟩,E,y⟩
def bL.length:∀{as:List (Nat×V)}{es:List DictEntry},bL c h as es->as.length=es.length
 |[],[],_=>rfl|_::_,_::_,r=>by simp[bL.length r.2.2.2]
 |[],_::_,r=>r.elim|_::_,[],r=>r.elim
def zt(k:Nat)(v:V)(as:List (Nat×V)):(m7 as k v).length<=as.length+1:=by induction as with
 |nil=>exact ah _|cons p r z=>obtain⟨j,w⟩:=p;refine(?_:(if j=k then(j,v)::r else(j,w)::m7 r k v).length<=r.length+1+1);by_cases e:j=k;rw[ar e];exact bR _;rw[au e];exact gK z
def tq(name:Str)(hash:Int)(key v:Value)(es:List DictEntry)(ep:Nat):∃y,Obj.putName name hash key v (dictOf es ep)=dictOf (nsPutIn name.cps.size name.cps.toList (λ|some e=>{e with val:=v}|none=>⟨hash,key,v⟩) es).1 y:=by unfold Obj.putName dictOf;dsimp only;generalize nsPutIn name.cps.size name.cps.toList _ es=z;obtain⟨E,ad⟩:=z;induction ad<;>exact⟨_,rfl⟩
def tu(R:Rel J c s)(ok:bp J){i C k:Nat}{as:List (Nat×V)}{v:V}{x:Value}{Q:Mem->Prop}(hi:i<c.Y.n)(e:c.Y.f i= .inst C as)(ic:ti J.K C)(u:k<9)(m:as.length<=100)(o:aE c s.heap v x)(q:Q (c.Y.set i (.inst C (m7 as k v)))):Ko J A E c s (setAttr (.ref (c.ρ i)) (attrName k) x) Q:=by
 obtain⟨d,es,ep,hf,ne,f,r,I⟩:=inst_at R hi e;have M:c.live i:=⟨hi,by refine e.symm▸?_;exact od⟩;have X:=R.K ok;have H:takerIn J.K C (attrName k)=some none:=by delta takerIn;rw[ic.B k u];rfl
 refine set_plain X I ic.sa (osa_open (s:={s with toks:=s.toks+1}) X I ic.po H λ b=> ?_);obtain⟨n,w,G⟩:=any_some ic.hd;have L:=I.at_;refine ag (ax (ag (ag (wpAny_loadPart L (ag ((looks_clsIn X w) _ _ _ _ (λ D D e=>e) ?_))))));refine G.symm▸?_;refine ax (a:=some d) (ag (ax (ag ?_)));refine ag (ag (sU (ax (ag (wpAny_mkText (ag (wpAny_loadPart f ?_)))))));dsimp only;have z:aRefKeyMayBeTheName (attrName k) es.toArray=false:=by
  rw[aRefKeyMayBeTheName_at];have:es.toArray.any (·.refKey)=false:=by exact List.any_toArray▸r.noRef
  rw[this,Bool.and_false]
 refine z.symm▸?_;generalize p:(if(attrName k).cps.isEmpty=true then(0:Int)else _)=hash;obtain⟨y,hp⟩:=tq (attrName k) hash (.str (attrName k) (s.toks+1)) x es ep;have h:(s.heap.update d (Obj.putName (attrName k) hash (.str (attrName k) (s.toks+1)) x)).get? d=some (dictOf _ y):=(Heap.get?_update_self _ f (by refine hp.symm▸?_;rfl)).trans (aF some hp);have S:=R.upd (s':={s with heap:=s.heap.update d (Obj.putName (attrName k) hash (.str (attrName k) (s.toks+1)) x),toks:=s.toks+1+1}) M (.inst C (m7 as k v))
  (λ b l j U=>by rw[hf]at U;simp at U;exact(jZ _ _ (Ne.symm U.2)).trans j) (by refine(?_:_<=(Heap.update _ _ _).objs.size);rw[vX];exact ah _) rfl rfl
  λ N=>⟨d,_,y,hf,ne,(jZ _ _ (Ne.symm ne)).trans L,h,(r.carry N).put u (o.carry N)⟩
 refine wpAny_updatePart f (ag (wpAny_lookBehind h ?_ (ax ⟨c.set i (.inst C (m7 as k v)),S,q⟩)));have g:=((r.put (hash:=hash) (t:=s.toks+1) u o)).length;have T:=zt k v as;exact pastItsLine_dict (by refine cf.symm▸g▸sizeLine_eq.symm▸?_;omega)
def Ew(R:Rel J c s)(ok:bp J){i C f:Nat}{as:List (Nat×V)}{name:Str}{z:Sem Bool}{Q:Value×aI->Shared->Prop}(hi:i<c.Y.n)(e:c.Y.f i= .inst C as)(ic:ti J.K C)(hf:findIn J.K (.ref C) name=some (some (.ref f)))(u:typeIn J.K (.ref f)=some (.type "function"))(p:∀k,k<9->attrName k≠name)(q:Q (.ref f,[.ref (c.ρ i)]) s):wpAny J.ay A (getMethod (.ref (c.ρ i)) name z) Q E s:=by
 obtain⟨d,es,ep,D,D,D,r,I⟩:=inst_at R hi e;refine method_fn (R.K ok) I ic.ga ic.gk hf u ?_ q;have fn:es.find? (·.key.isStr name)=none:=by rw[List.find?_eq_none];intro h N;obtain⟨k,t,L,G⟩:=r.keys h N;refine G.symm▸?_;refine(?_:¬(attrName k==name)=true);simp[p k L]
 unfold shadowIn lookIn dictOf;simp[fn,r.noRef]
section
open PySem.Calls Builtin Builtin.ObjectAttr Builtin.Getset_descriptor
noncomputable def Kp:List Str:=["node","npredecessors","successors"]
noncomputable def d7(j:Nat):Str:=Kp.getD j "?"
structure NH(K:Frag)(C j p:Nat):Prop where
 fi:findIn K (.ref C) (d7 j)=some (some (.ref p))
 ge:specialIn K (.ref p) "__get__"=some (some (.builtin "member_descriptor.__get__"))
 tk:takesIn K (.ref p)=some true
 si:slotIn K p C=some j
 ty:typeIn K (.ref p)=some (.type "member_descriptor")
 lt:j<3
structure xq(K:Frag)(C:Addr):Prop where
 ga:findIn K (.ref C) "__getattribute__"=some (some (.builtin "object.__getattribute__"))
 gk:findIn K (.ref C) "__getattr__"=some none
 sa:findIn K (.ref C) "__setattr__"=some (some (.builtin "object.__setattr__"))
 po:plainOver K C=true
 cl:(clsIn K C).isSome=true
 sl:∀j,j<3->∃p,NH K C j p
noncomputable def GA(K:Frag)(C j:Nat)(r:Option (Option Value)):Bool:=match r with
 |some (some (.ref p))=>specialIn K (.ref p) "__get__"==some (some (.builtin "member_descriptor.__get__"))&&takesIn K (.ref p)==some true&&slotIn K p C==some j&&typeIn K (.ref p)==some (.type "member_descriptor")|_=>false
noncomputable def Kq(K:Frag)(C j:Nat):Bool:=GA K C j (findIn K (.ref C) (d7 j))
noncomputable def sy(K:Frag)(C:Addr):Bool:=findIn K (.ref C) "__getattribute__"==some (some (.builtin "object.__getattribute__"))&&findIn K (.ref C) "__getattr__"==some none&&findIn K (.ref C) "__setattr__"==some (some (.builtin "object.__setattr__"))&&plainOver K C&&(clsIn K C).isSome&&(List.range 3).all (Kq K C)
def Ex{K:Frag}{C:Addr}(h:sy K C=true):xq K C:=by unfold sy at h;simp only[qX,cZ,fE,dY]at h;obtain⟨⟨⟨⟨⟨M,G⟩,l⟩,z⟩,U⟩,d⟩:=h;refine⟨M,G,l,z,U,λ j t=> ?_⟩;have:GA K C j (findIn K (.ref C) (d7 j))=true:=d j t;generalize hp:findIn K (.ref C) (d7 j)=r at this;obtain D|D|p:=r;exact nf this;exact nf this;induction p with
 |ref p=>have t1:=ao this;have t2:=ao t1.1;have N:=ao t2.1;exact⟨p,hp,bc N.1,bc N.2,bc t2.2,bc t1.2,t⟩|_=>exact nf this
def CX(R:Rel J c s){i C:Nat}{vs:aw}(hi:i<c.Y.n)(e:c.Y.f i= .node C vs):∃d L,c.fp i=[c.ρ i,d]/\c.ρ i≠d/\s.heap.get? d=some emptyDict/\j4 c s.heap vs L/\InstAt s.heap (c.ρ i) {cls:= .ref C,dict:=some d,data:= .plain,slots:=L} C (some emptyDict):=by have A:=R.obj i hi;rw[e]at A;obtain⟨d,L,hf,ne,a,Q,r⟩:=A;exact⟨d,L,hf,ne,Q,r,⟨a,rfl,rfl,Q⟩⟩
def get_node(R:Rel J c s)(ok:bp J){i C j:Nat}{vs:aw}{v:V}{b:Bool}(hi:i<c.Y.n)(e:c.Y.f i= .node C vs)(U:xq J.K C)(t:j<3)(n:vs[j]? =some v)(k:v≠.aC)(q:Q v c.Y):bA J A E c s (getAttr (.ref (c.ρ i)) (d7 j) b) Q:=by obtain⟨d,H,D,D,D,r,I⟩:=CX R hi e;obtain⟨p,a⟩:=U.sl j t;rcases r j v n with h|⟨x,L,o⟩;exact absurd h k;refine get_bind (R.K ok) I U.ga (findObj_data U.cl a.fi a.ge a.tk) U.gk (wpAny_call (slot_get (s:={s with toks:=s.toks+1}) (R.K ok) I a.si L ?_));dsimp only;exact handedOut_of (zr o)▸ax ⟨c,v,Step.toks R _,o,q⟩
def GB{prog:Program}{w:World}{K:Frag}{C x p i:Nat}{k:Obj}{od:Option Obj}{v:Value}{R:Result->Shared->Prop}(X:K.In s.heap)(I:InstAt s.heap x k C od)(hp:slotIn K p C=some i)(hi:i<1000)(h:R (.ok (.ret .none)) {s with heap:=s.heap.update x λ o=>{o with slots:=(o.slots++Array.replicate (i+1-o.slots.size) none).setIfInBounds i (some v)}}):codeAny (model prog w) A (.call (.builtin "member_descriptor.__set__") ⟨[.ref p,.ref x,v],[]⟩) R s:=by
 obtain⟨n,Q,owner,behind,a,d,H,b,m,T,hm,U,rfl⟩:=slot_of X hp;obtain⟨f,g,j,t,os⟩:=s;have G:=I.type (M:=model prog w);have e:=looks_mroIn (M:=model prog w) X hm;have u:Looks (model prog w) f (Slots.slotNamesOf (.ref C)) b.slotNames:=(looks_clsIn X T).andThen .now;have L:=I.at_;dsimp only at m L G e;have l:=looks_field (M:=model prog w) m 0 (v:= .str n Q) rfl;have f1:=looks_field (M:=model prog w) m 1 (v:=owner) rfl;have y:=looks_field (M:=model prog w) m 3 (v:= .builtin "proto.slot#set") rfl;have r:=looks_field (M:=model prog w) m 4 (v:= .int behind a) rfl;refine codeAny_call_builtin KF.slot_mset.plain KF.entry_mset (KF.slot_mset.check _ _ _ _ _ _ _ _ ⟨_,m,rfl⟩ (KF.args_mset _ _ _) ?_);unfold Builtin.«member_descriptor.__set__» descrSet descrStoreThrough descrCheckInstance descrNameAndClass isInstance;have z:Looks (model prog w) f (descrItself (.ref p)) [.ref p]:=((Looks.ld (part:=none) m).andThen .now).andThen (Looks.of_pure (by kernel_rfl))
 repeat lk
 refine⟨Code.quiet_builtin _ (by decide+kernel),codeAny_builtin KF.entry_slotset ?_⟩;unfold Builtin.«proto.slot#set» Slots.target
 repeat lk
 refine(au U).symm▸?_;refine ax (ag ?_);unfold setSlotAt;dsimp only;rw[au (by rw[sizeLine_eq];omega)];exact wpAny_updatePart L (ax h)
def j4.put{vs:aw}{L:Array (Option Value)}{j:Nat}{v:V}{x:Value}(r:j4 c h vs L)(Q:aE c h v x):j4 c h (vs.set j v) ((L++Array.replicate (j+1-L.size) none).setIfInBounds j (some x)):=by
 intro k w g;rw[List.getElem?_set]at g;have hsz:j<(L++Array.replicate (j+1-L.size) none).size:=by simp;omega
 by_cases e:j=k;subst e;rw[ar rfl]at g;split at g;obtain rfl:=aN g
 right
 exact⟨x,by refine(Array.getElem?_setIfInBounds_self_of_lt hsz).symm▸?_;rfl,Q⟩;exact nn g;rw[au e]at g;rcases r k w g with q|⟨y,T,b⟩;exact .inl q
 right
 refine⟨y,?_,b⟩;refine(Array.getElem?_setIfInBounds_ne (h:=e)).symm▸?_;have:k<L.size:=by cases q:L[k]?with
  |none=>rw[q]at T;exact nn T|some z=>exact(yX.mp q).1
 exact Array.getElem?_append_left this▸T
set_option maxHeartbeats 1000000 in
def set_node(R:Rel J c s)(ok:bp J){i C j:Nat}{vs:aw}{v:V}{x:Value}{Q:Mem->Prop}(hi:i<c.Y.n)(e:c.Y.f i= .node C vs)(h:xq J.K C)(t:j<3)(M:aE c s.heap v x)(q:Q (c.Y.set i (.node C (vs.set j v)))):Ko J A E c s (setAttr (.ref (c.ρ i)) (d7 j) x) Q:=by
 obtain⟨d,L,hf,ne,D,r,I⟩:=CX R hi e;obtain⟨p,a⟩:=h.sl j t;have G:c.live i:=⟨hi,by refine e.symm▸?_;exact od⟩;have X:=R.K ok;have u:takerIn J.K C (d7 j)=some (some (.ref p)):=by unfold takerIn;refine a.fi.symm▸?_;simp[a.tk]
 refine set_plain X I h.sa (osa_descr (s:={s with toks:=s.toks+1}) KF.slot_mset X I h.po u a.ty (GB (s:={s with toks:=s.toks+1}) X I a.si (by exact aa t dD) ?_));have S:=R.upd (s':={s with heap:=s.heap.update (c.ρ i) λ o=>{o with slots:=(o.slots++Array.replicate (j+1-o.slots.size) none).setIfInBounds j (some x)},toks:=s.toks+1}) G (.node C (vs.set j v))
  (λ b z l U=>by rw[hf]at U;simp at U;exact(jZ _ _ (Ne.symm U.1)).trans l) (by refine(?_:_<=(Heap.update _ _ _).objs.size);rw[vX];exact ah _) rfl rfl
  λ N=>⟨d,_,hf,ne,Heap.get?_update_self _ I.at_ rfl,(jZ _ _ ne).trans D,(show j4 _ _ vs L from λ k w g=>(r k w g).imp id λ⟨y,T,H⟩=>⟨y,T,H.carry N⟩).put (M.carry N)⟩
 exact⟨c.set i (.node C (vs.set j v)),S,q⟩
def GC(R:Rel J c s)(C:Addr)(t:Nat):Step J c s (c.new (s.heap.objs.size+1) [s.heap.objs.size+1,s.heap.objs.size] [] (.inst C [])) {s with heap:=(s.heap.push emptyDict).push (instObj C s.heap.objs.size),toks:=t} cN:=by
 have x:((s.heap.push emptyDict).push (instObj C s.heap.objs.size)).objs.size=s.heap.objs.size+2:=by rw[b9,b9]
 have M:((s.heap.push emptyDict).push (instObj C s.heap.objs.size)).get? (s.heap.objs.size+1)=some (instObj C s.heap.objs.size):=by have:=bS (s.heap.push emptyDict) (o:=instObj C s.heap.objs.size) rfl;rwa[b9]at this
 refine R.new (s':={s with heap:=(s.heap.push emptyDict).push (instObj C s.heap.objs.size),toks:=t}) (s.heap.objs.size+1) [s.heap.objs.size+1,s.heap.objs.size] [] (.inst C []) (λ D D e=>bN _ (bN _ e)) (by refine x.symm▸?_;exact av _ _) rfl rfl (λ b U=> ?_) (λ b U=>by exact absurd U ck) λ N=> ?_;refine(?_:_/\b<((s.heap.push emptyDict).push (instObj C s.heap.objs.size)).objs.size);refine x.symm▸?_;simp only[aT,ck,or_false]at U;rcases U with rfl|rfl;exact⟨bR _,bz _⟩;exact⟨ah _,fF (bz _)⟩;exact⟨s.heap.objs.size,[],0,rfl,ny _,M,bN _ (bS _ rfl),trivial⟩
def GD(R:Rel J c s)(C:Addr)(t:Nat):Step J c s (c.new (s.heap.objs.size+1) [s.heap.objs.size+1,s.heap.objs.size] [] (.node C [.aC,.aC,.aC])) {s with heap:=(s.heap.push emptyDict).push (instObj C s.heap.objs.size),toks:=t} cN:=by
 have x:((s.heap.push emptyDict).push (instObj C s.heap.objs.size)).objs.size=s.heap.objs.size+2:=by rw[b9,b9]
 have M:((s.heap.push emptyDict).push (instObj C s.heap.objs.size)).get? (s.heap.objs.size+1)=some (instObj C s.heap.objs.size):=by have:=bS (s.heap.push emptyDict) (o:=instObj C s.heap.objs.size) rfl;rwa[b9]at this
 refine R.new (s':={s with heap:=(s.heap.push emptyDict).push (instObj C s.heap.objs.size),toks:=t}) (s.heap.objs.size+1) [s.heap.objs.size+1,s.heap.objs.size] [] (.node C [.aC,.aC,.aC]) (λ D D e=>bN _ (bN _ e)) (by refine x.symm▸?_;exact av _ _) rfl rfl (λ b U=> ?_) (λ b U=>by exact absurd U ck) λ N=> ?_;refine(?_:_/\b<((s.heap.push emptyDict).push (instObj C s.heap.objs.size)).objs.size);refine x.symm▸?_;simp only[aT,ck,or_false]at U;rcases U with rfl|rfl;exact⟨bR _,bz _⟩;exact⟨ah _,fF (bz _)⟩;refine⟨s.heap.objs.size,#[],rfl,ny _,M,bN _ (bS _ rfl),λ j v n=> .inl ?_⟩
 match j,n with
 |0,n=>exact aN n.symm|1,n=>exact aN n.symm
 |2,n=>exact aN n.symm|j+3,n=>exact nn n
end
inductive ME where
 |lit (v:V)
 |var (i:Nat)
 |bT (k:Nat)
 |bin (op:Operator) (a b:ME)
 |cmp (op:CmpOp) (a b:ME)
 |qp (a:ME) (o1:CmpOp) (b:ME) (o2:CmpOp) (d:ME)
 |neg (a:ME)
 |Qw (t a b:ME)
 |bor (a b:ME)
 |call (f:ME) (args:List ME) (ns:List Str) (kws:List ME)
 |star (a:ME)
 |a9 (o:ME) (m:Nat) (args:List ME)
 |nE (o:ME) (m:Nat) (args:List ME)
 |attr (o:ME) (k:Nat)
 |slot (o:ME) (j:Nat)
 |sub (o i:ME)
 |slice (o:ME) (lo hi:Option ME)
 |list (mt:Bool) (es:List ME)
 |tuple (es:List ME)
 |wq
 |comp (mt:Bool) (elt:ME) (tg:aj) (it:ME) (tests:List ME)
 |freeze (a:ME)
 |zu (a:ME)
 |xr (es:List ME)
 |Qx (es:List ME)
 |zip (k:Nat) (a b:ME)
 |range (k:Nat) (args:List ME)
 |values (o:ME)
 |dZ (k:Nat) (o:ME)
 |tv (k:Nat) (o:ME)
 |GF (a:ME)
 |mulM (a b:ME)
 |Ey (elt:ME) (tg:aj) (it:ME)
 |wt (kl kr:Nat) (args:List ME)
 |tA (i:Nat)
 deriving Inhabited
inductive vk where
 |var (i:Nat)
 |attr (o:ME) (k:Nat)
 |slot (o:ME) (j:Nat)
 |sub (o i:ME)
 deriving Inhabited
inductive MS where
 |assign (ts:List vk) (e:ME)
 |unpack (is:aj) (e:ME)
 |kO (ts:List vk) (e:ME)
 |aug (i:Nat) (op:Operator) (e:ME)
 |ju (o:ME) (k:Nat) (op:Operator) (e:ME)
 |jv (o:ME) (j:Nat) (op:Operator) (e:ME)
 |dC (t:ME) (a b:List MS)
 |wu (i:Nat) (e:ME) (a b:List MS)
 |gq (t:ME) (body orelse:List MS)
 |ir (tg:aj) (it:ME) (body:List MS)
 |oW (i:Nat) (it:ME) (body:List MS)
 |ret (e:ME)
 |expr (e:ME)
 |brk
 |cont
 |jw (t:ME)
 |Ez (body:List MS)
 |mI (i st it nd g:Nat)
 |lW (g C:Nat) (args:List ME)
 |lp (o:ME) (m:Nat) (args:List ME)
 |EA (a:List MS) (g C:Nat) (h:Option (Nat×V))
 |dead
 deriving Inhabited
inductive Fl where
 |next|brk|cont
 |ret (v:V)
 |exc (C:Nat)
structure Pg where
 G:List (Str×V)
 meths:List (Nat×Nat×Nat)
 insts:aj
 tB:Nat
 Kr:aj:=[]
variable{pg:Pg}
noncomputable def Ks:List Str:=["append","pop","extend","clear","get","add","encode","join","count","translate","decode","maketrans","read","get_token","push_token","_read_char","prepare","get_ready","is_active","done","_find_cycle","_get_nodeinfo"]
noncomputable def bf(m:Nat):Str:=Ks.getD m "?"
noncomputable def Pg.a9(pg:Pg)(C m:Nat):Option Nat:=(pg.meths.find? λ x=>x.1==C&&x.2.1==m).map (·.2.2)
noncomputable def Bm.ty:Bm->Nat
 | .jm| .yY| .jo| .lR=>0| .w6=>1| .yZ=>2| .ie| .qZ| .lS=>3| .d4| .jq| .q4=>4| .dg=>5
noncomputable def Bm.no:Bm->Nat
 | .jm=>0| .yY=>1| .jo=>2| .lR=>3| .w6=>4| .yZ=>5| .ie=>6| .qZ| .q4=>7| .lS=>8| .d4=>9| .jq=>10| .dg=>11
noncomputable def NJ(t m:Nat):Option Bm:=[.jm,.yY,.jo,.lR,.w6,.yZ,.ie,.qZ,.d4,.jq,.dg,.lS,.q4].find? λ b=>Nat.beq b.ty t&&Nat.beq b.no m
noncomputable def Br(t:Nat)(v:V)(m:Nat):Option (V×aw):=(NJ t m).map λ b=>(.bm b,[v])
noncomputable def j7(pg:Pg)(o:O)(v:V)(m:Nat):Option (V×aw):=match o with
 | .list _=>Br 0 v m| .dict _ _=>Br 1 v m
 | .set _=>Br 2 v m| .inst C as=>if pg.insts.contains C then(if m=12 then(as.lookup 4).bind λ f=>match f with
   | .ref j=>some (.ref j,[])|_=>none else(pg.a9 C m).map λ fa=>(.glob fa,[v]))else none
 |_=>none
noncomputable def kP(pg:Pg)(Y:Mem)(v:V)(m:Nat):Option (V×aw):=match v with
 | .ref i=>j7 pg (Y.f i) v m| .str _=>Br 3 v m
 | .bytes _=>Br 4 v m| .ty t=>if t= .bytes/\m=11 then some (.bm .dg,[])else none
 |_=>none
noncomputable def intsOf:aw->Option (List Int)
 |[]=>some []| .int i::r=>(intsOf r).map (i::·)
 |_::_=>none
noncomputable def strsOf:aw->Option (List aj)
 |[]=>some []| .str s::r=>(strsOf r).map (s::·)
 |_::_=>none
noncomputable def Kt:O->Option Nat
 | .list vs=>some vs.length| .dict bJ _=>some bJ.length
 |_=>none
noncomputable def Ku(Y:Mem):V->Option Nat
 | .str l=>some l.length| .bytes l=>some l.length
 | .tuple l=>some l.length| .ref i=>Kt (Y.f i)
 |v=>(bD Y v).map (·.length)
noncomputable def MB:V->Option Ty
 | .str _=>some .str| .bytes _=>some .bytes
 | .bool _=>some .bool| .int _=>some .int
 |_=>none
noncomputable def eC(sep:aj):List aj->aj
 |[]=>[]|[x]=>x
 |x::y::r=>x++sep++eC sep (y::r)
noncomputable def ascii(l:aj):Bool:=l.all (·<128)
noncomputable def nS(U l:aj):aj:=l.map λ k=>U.getD k 0
noncomputable def gr(a b:aj):aj:=(List.range 256).map λ k=>((a.zip b).reverse.lookup k).getD k
noncomputable def sortI(l:List Int):List Int:=l.mergeSort (·<=·)
noncomputable def isAscii(l:aj):Bool:=decide (l=[97,115,99,105,105])
noncomputable def MC(t:Ty)(b:Option Bool):Option Bool:=match t with
 | .str=>b|_=>none
noncomputable def CY(v t:V):Option Bool:=match v with
 | .str _=>match t with
  | .ty t=>MC t (some true)|_=>none
 |_=>none
noncomputable def short{α:Type}(l:List α):Bool:=decide (l.length<=100000)
def NK{α:Type}{k:α}{l:aw}{r:α}(h:(match l with|[]=>some k|_=>none)=some r):l=[]/\k=r:=by induction l using lC with
 |nil=>exact⟨rfl,aN h⟩|cons v l=>exact nn h
def NL{α:Type}{k:V->Option α}{l:aw}{r:α}(h:(match l with|[v]=>k v|_=>none)=some r):∃v,l=[v]/\k v=some r:=by induction l using lC with
 |nil=>exact nn h|cons v l=>induction l using lC with
  |nil=>exact⟨v,rfl,h⟩|cons w l=>exact nn h
def GG{α:Type}{k:V->V->Option α}{l:aw}{r:α}(h:(match l with|[v,w]=>k v w|_=>none)=some r):∃v w,l=[v,w]/\k v w=some r:=by induction l using lC with
 |nil=>exact nn h|cons v l=>induction l using lC with
  |nil=>exact nn h|cons w l=>induction l using lC with
   |nil=>exact⟨v,w,rfl,h⟩|cons x l=>exact nn h
def iR{α:Type}{k:Int->Option α}{v:V}{r:α}(h:(match v with| .int i=>k i|_=>none)=some r):∃i,v= .int i/\k i=some r:=by induction v using vC with
 |int i=>exact⟨i,rfl,h⟩|_=>exact nn h
def Bs{α:Type}{k:Nat->Option α}{v:V}{r:α}(h:(match v with| .ref i=>k i|_=>none)=some r):∃i,v= .ref i/\k i=some r:=by induction v using vC with
 |ref i=>exact⟨i,rfl,h⟩|_=>exact nn h
def GH{α:Type}{k:aj->Option α}{v:V}{r:α}(h:(match v with| .str i=>k i|_=>none)=some r):∃i,v= .str i/\k i=some r:=by induction v using vC with
 |str i=>exact⟨i,rfl,h⟩|_=>exact nn h
def GJ{α:Type}{k:aj->Option α}{v:V}{r:α}(h:(match v with| .bytes i=>k i|_=>none)=some r):∃i,v= .bytes i/\k i=some r:=by induction v using vC with
 |bytes i=>exact⟨i,rfl,h⟩|_=>exact nn h
def NM{α:Type}{k:aw->Option α}{v:V}{r:α}(h:(match v with| .tuple i=>k i|_=>none)=some r):∃i,v= .tuple i/\k i=some r:=by induction v using vC with
 |tuple i=>exact⟨i,rfl,h⟩|_=>exact nn h
def sA{α:Type}{k:aw->Option α}{v:O}{r:α}(h:(match v with| .list i=>k i|_=>none)=some r):∃i,v= .list i/\k i=some r:=by induction v with
 |list i=>exact⟨i,rfl,h⟩|_=>exact nn h
def CZ{α:Type}{k:List (Int×V)->Nat->Option α}{v:O}{r:α}(h:(match v with| .dict i e=>k i e|_=>none)=some r):∃i e,v= .dict i e/\k i e=some r:=by induction v with
 |dict i e=>exact⟨i,e,rfl,h⟩|_=>exact nn h
def NN{α:Type}{k:List Int->Option α}{v:O}{r:α}(h:(match v with| .set i=>k i|_=>none)=some r):∃i,v= .set i/\k i=some r:=by induction v with
 |set i=>exact⟨i,rfl,h⟩|_=>exact nn h
def q9{α:Type}{k:aw->Option α}{v:Option aw}{r:α}(h:(match v with|some i=>k i|none=>none)=some r):∃i,v=some i/\k i=some r:=by induction v with
 |some i=>exact⟨i,rfl,h⟩|none=>exact nn h
def GK{α:Type}{k:List Int->Option α}{v:Option (List Int)}{r:α}(h:(match v with|some i=>k i|none=>none)=some r):∃i,v=some i/\k i=some r:=by induction v with
 |some i=>exact⟨i,rfl,h⟩|none=>exact nn h
def NO{α:Type}{k:Nat->Option α}{v:Option (Nat)}{r:α}(h:(match v with|some i=>k i|none=>none)=some r):∃i,v=some i/\k i=some r:=by induction v with
 |some i=>exact⟨i,rfl,h⟩|none=>exact nn h
def Qy{α:Type}{k:List aj->Option α}{v:Option (List aj)}{r:α}(h:(match v with|some i=>k i|none=>none)=some r):∃i,v=some i/\k i=some r:=by induction v with
 |some i=>exact⟨i,rfl,h⟩|none=>exact nn h
def Wc(vs:aw)(f:V->Prop):Prop:=match vs with
 |[v]=>f v|_=>False
def TS{vs:aw}{f:V->Prop}(h:Wc vs f):∃v,vs=[v]/\f v:=by induction vs using lC with
 |nil=>exact h.elim|cons v vs=>induction vs using lC with
  |nil=>exact⟨v,rfl,h⟩|cons=>exact h.elim
def rQ{P:V->Prop}{k:Nat->Prop}{v:V}(h:match v with| .ref i=>k i|_=>False)(g:∀i,k i->P (.ref i)):P v:=by induction v using vC with
 |ref i=>exact g i h|_=>exact h.elim
def TU{P:V->Prop}{k:Int->Prop}{v:V}(h:match v with| .int i=>k i|_=>False)(g:∀i,k i->P (.int i)):P v:=by induction v using vC with
 |int i=>exact g i h|_=>exact h.elim
def instP{P:Prop}{k:Nat->List (Nat×V)->Prop}{v:O}(h:match v with| .inst C as=>k C as|_=>False)(g:∀C as,v= .inst C as->k C as->P):P:=by induction v with
 |inst i as=>exact g i as rfl h|_=>exact h.elim
def C0{P:Prop}{k:Nat->aw->Prop}{v:O}(h:match v with| .node C as=>k C as|_=>False)(g:∀C as,v= .node C as->k C as->P):P:=by induction v with
 |node i as=>exact g i as rfl h|_=>exact h.elim
def Qz{α:Type}{b:Bool}{x:Option α}{r:α}(h:(if b=true then x else none)=some r):b=true/\x=some r:=by induction b with
 |true=>exact⟨rfl,h⟩|false=>exact nn h
noncomputable def O.Bt:O->Option (List Int)
 | .w7 xs=>some xs|_=>none
def O.EB{o:O}{xs:List Int}(h:o.Bt=some xs):o= .w7 xs:=by induction o<;>first|exact nn h|exact(aN h).symm▸rfl
noncomputable def C1(Y:Mem)(v:V):Option (List Int):=match v with
 | .tuple vs=>intsOf vs| .ref i=>(Y.f i).Bt
 |_=>none
noncomputable def C2(sep:aj)(vs:aw):Option aj:=match sep with
 |[]=>match vs with
  |[x,y,z]=>x.nQ.bind λ a=>y.nQ.bind λ b=>z.nQ.map λ c=>a++(b++c)|_=>none
 |_=>none
noncomputable def d8(Y:Mem)(f:V)(args:aw):Option (V×Mem):=match f with
 | .ty t=>match t with
  | .int=>match args with
   |[v]=>match v with
    | .int i=>some (.int i,Y)|_=>none
   |_=>none
  | .bytes=>match args with
   |[v]=>match bD Y v with
    |some vs=>match intsOf vs with
     |some is=>if short is&&is.all (λ i=>decide (0<=i)&&decide (i<256))then some (.bytes (is.map Int.toNat),Y)else none|none=>none
    |none=>none
   |_=>none
  | .tuple=>match args with
   |[v]=>match bD Y v with
    |some vs=>if short vs then some (.tuple vs,Y)else none|none=>none
   |_=>none
  | .set=>match args with
   |[]=>some (.ref Y.n,Y.alloc (.set []))|_=>none
  | .type=>match args with
   |[v]=>(MB v).map λ t=>(.ty t,Y)|_=>none
  | .bool=>match args with
   |[v]=>(cQ Y v).map λ b=>(.bool b,Y)|_=>none
  |_=>none
 | .bi b=>match b with
  | .sum=>match args with
   |[v]=>match bD Y v with
    |some vs=>match intsOf vs with
     |some is=>if short is then some (.int is.sum,Y)else none|none=>none
    |none=>none
   |_=>none
  | .sorted=>match args with
   |[v]=>match C1 Y v with
    |some is=>if decide (is.length<60)then some (.list ((sortI is).map .int),Y)else none|none=>none
   |_=>none
  | .len=>match args with
   |[v]=>match Ku Y v with
    |some n=>if decide (n<=1000000)then some (.int n,Y)else none|none=>none
   |_=>none
  | .isinstance=>match args with
   |[v,t]=>(CY v t).map λ b=>(.bool b,Y)|_=>none
  |_=>none
 | .bm b=>match b with
  | .jm=>match args with
   |[v,w]=>match v with
    | .ref i=>match Y.f i with
     | .list vs=>if short vs then some (.none,Y.set i (.list (vs++[w])))else none|_=>none
    |_=>none
   |_=>none
  | .yY=>none| .jo=>match args with
   |[v,w]=>match v with
    | .ref i=>match w with
     | .str l=>match Y.f i with
      | .list vs=>if short vs&&short l then some (.none,Y.set i (.list (vs++l.map λ k=> .str [k])))else none|_=>none
     |_=>none
    |_=>none
   |_=>none
  | .lR=>match args with
   |[v]=>match v with
    | .ref i=>match Y.f i with
     | .list vs=>if short vs then some (.none,Y.set i (.list []))else none|_=>none
    |_=>none
   |_=>none
  | .w6=>match args with
   |[v,w]=>match v with
    | .ref i=>match w with
     | .int k=>match Y.f i with
      | .dict bJ _=>some ((bJ.lookup k).getD .none,Y)|_=>none
     |_=>none
    |_=>none
   |_=>none
  | .yZ=>match args with
   |[v,w]=>match v with
    | .ref i=>match w with
     | .int k=>match Y.f i with
      | .set xs=>if decide (xs.length<=1000)then some (.none,Y.set i (.set (if k∈xs then xs else xs++[k])))else none|_=>none
     |_=>none
    |_=>none
   |_=>none
  | .lS=>match args with
   |[v,w]=>match v with
    | .str l=>match w with
     | .str e=>match e with
      |[k]=>some (.int (l.count k:Nat),Y)|_=>none
     |_=>none
    |_=>none
   |_=>none
  | .q4=>match args with
   |[v,w]=>match v with
    | .bytes sep=>match bD Y w with
     |some vs=>match C2 sep vs with
      |some l=>if short l then some (.bytes l,Y)else none|none=>none
     |none=>none
    |_=>none
   |_=>none
  | .ie=>match args with
   |[v,w]=>match v with
    | .str l=>match w with
     | .str e=>if isAscii e&&ascii l&&short l then some (.bytes l,Y)else none|_=>none
    |_=>none
   |_=>none
  | .jq=>match args with
   |[v,w]=>match v with
    | .bytes l=>match w with
     | .str e=>if isAscii e&&ascii l&&short l then some (.str l,Y)else none|_=>none
    |_=>none
   |_=>none
  | .qZ=>match args with
   |[v,w]=>match v with
    | .str sep=>match bD Y w with
     |some vs=>match strsOf vs with
      |some x=>if short (eC sep x)&&short x&&short sep then some (.str (eC sep x),Y)else none|none=>none
     |none=>none
    |_=>none
   |_=>none
  | .d4=>match args with
   |[v,w]=>match v with
    | .bytes l=>match w with
     | .bytes U=>if decide (U.length=256)&&short l then some (.bytes (nS U l),Y)else none|_=>none
    |_=>none
   |_=>none
  | .dg=>match args with
   |[v,w]=>match v with
    | .bytes a=>match w with
     | .bytes b=>if decide (a.length=b.length)&&decide (a.length<=256)then some (.bytes (gr a b),Y)else none|_=>none
    |_=>none
   |_=>none
 |_=>none
def dn(c:Vw)(h:Heap):List Str->aw->List (Str×Value)->Prop
 |[],[],[]=>True|n::ns,v::vs,(m,x)::r=>n=m/\aE c h v x/\dn c h ns vs r
 |_,_,_=>False
inductive GL(J:Cx)(c:Vw)(s:Shared)(Q:fA)(r:Result)(s':Shared):Prop
 |mk (x:Value) (c':Vw) (v:V) (e:r= .ok (.ret x)) (S:Step J c s c' s' cN) (rv:aE c' s'.heap v x) (q:Q v c'.Y):GL J c s Q r s'
def aJ(J:Cx)(d:Nat)(f:V)(args:aw)(ns:List Str)(kws:aw)(Q:fA)(Y:Mem):Prop:=∀A c s l xs ks,jK d A->xe A c->c.Y=Y->Rel J c s->aE c s.heap f l->aA c s.heap args xs->dn c s.heap ns kws ks->(∃k,Looks J.ay s.heap (keeperOf l) k)/\codeAny J.ay A (.call l ⟨xs,ks⟩) (GL J c s Q) s
noncomputable def PW:Nat->Value
 |0=> .type "ValueError"|C+1=> .ref (C+1)
inductive TV(c:Vw)(A:Around)(g:Heap)(C:Nat)(e:Addr)(h:Heap):Prop
 |mk (base:Heap) (a0:Value) (kb:∀b o,g.get? b=some o->b∉c.z->base.get? b=some o) (up:∀b o,g.get? b=some o->b∈c.z->∃sl,h.get? b=some {o with slots:=sl}) (sz:g.objs.size<=h.objs.size) (fl:∀l,A.frames=some l->Heap.FlyingW base l e (PW C) a0 h):TV c A g C e h
inductive C3(J:Cx)(A:Around)(c:Vw)(s:Shared)(Q:fA)(X:Nat->Mem->Prop)(r:Result)(s':Shared):Prop
 |ok (h:GL J c s Q r s'):C3 J A c s Q X r s'
 |exc (e:Addr) (C:Nat) (c':Vw) (g:Heap) (he:r= .error (.ref e)) (S:Step J c s c' {s' with heap:=g} cN) (f:TV c' A g C e s'.heap) (x:X C c'.Y):C3 J A c s Q X r s'
def rb(J:Cx)(d:Nat)(f:V)(args:aw)(Q:fA)(X:Nat->Mem->Prop)(Y:Mem):Prop:=∀A c s l xs,jK d A->xe A c->c.Y=Y->Rel J c s->aE c s.heap f l->aA c s.heap args xs->(∃k,Looks J.ay s.heap (keeperOf l) k)/\codeAny J.ay A (.call l ⟨xs,[]⟩) (C3 J A c s Q X) s
def lp(J:Cx)(d:Nat)(f:V)(args:aw)(Q:fA)(X:Nat->Mem->Prop)(Y:Mem):Prop:=match d with
 |0=>False|d+1=>rb J (d+1) f args Q X Y
def tC(f:V)(args:aw)(kws:aw)(Q:fA)(Y:Mem):Prop:=match kws with
 |[]=>match d8 Y f args with
  |some (v,σ')=>Q v σ'|none=>False
 |_=>False
def fM(J:Cx)(d:Nat)(f:V)(args:aw)(ns:List Str)(kws:aw)(Q:fA)(Y:Mem):Prop:=match f with
 | .glob a=>match d with
  |0=>False|d+1=>aJ J (d+1) f args ns kws Q Y
 | .ref i=>match d with
  |0=>False|d+1=>aJ J (d+1) f args ns kws Q Y
 |f=>tC f args kws Q Y
noncomputable def zv(i:Nat)(o:O):Option (Bool×aw×(Mem->Prop)):=match o with
 | .list vs=>some (false,vs,λ σ'=>σ'.f i= .list vs)| .dict bJ ep=>some (false,(bJ.map (·.1)).map .int,λ σ'=>∃q,σ'.f i= .dict q ep/\q.map (·.1)=bJ.map (·.1))
 |_=>none
noncomputable def jx(Y:Mem):V->Option (Bool×aw×(Mem->Prop))
 | .list vs=>some (false,vs,λ D=>True)| .tuple vs=>some (false,vs,λ D=>True)
 | .bytes l=>some (false,l.map λ(k:Nat)=>V.int (k:Int),λ D=>True)| .it v vs=>some (v,vs,λ D=>True)
 | .lh i=>match Y.f i with
  | .dict bJ ep=>some (false,bJ.map (·.2),λ σ'=>σ'.f i= .dict bJ ep)|_=>none
 | .ref i=>zv i (Y.f i)|_=>none
noncomputable def fN(a b c:Int):aw:=(List.range (Builtin.Range.rangeSize a b c).toNat).map λ(j:Nat)=>V.int (a+j*c)
noncomputable def lX(k:Bool)(u:aj)(v:V)(B:aw):Option aw:=match k with
 |false=>match u with
  |[i]=>some (B.set i v)|_=>none
 |true=>match u with
  |[i,j]=>match v with
   | .tuple vs=>match vs with
    |[a,b]=>some ((B.set i a).set j b)|_=>none
   |_=>none
  |_=>none
noncomputable def GN(t:aj)(B:aw):aw:=t.foldl (λ f i=>f.set i .aC) B
def compLoop(step:V->(aw->Mem->Prop)->Mem->Prop)(g:Mem->Prop):aw->(aw->Mem->Prop)->aw->Mem->Prop
 |[],K,acc,Y=>g Y/\K acc Y|v::vs,K,acc,Y=>g Y/\short acc=true/\step v (λ E σ'=>compLoop step g vs K (acc++E) σ') Y
def wx(J:aw->Mem->Prop)(Q:Fl->aw->Mem->Prop)(i:Fl)(B:aw)(Y:Mem):Prop:=match i with
 | .next| .cont=>J B Y| .brk=>Q .next B Y
 | .ret w=>Q (.ret w) B Y| .exc C=>Q (.exc C) B Y
def forLoop(step:V->(Fl->aw->Mem->Prop)->aw->Mem->Prop)(g:Mem->Prop)(vs:aw)(Q:Fl->aw->Mem->Prop):aw->Mem->Prop:=match vs with
 |[]=>λ B Y=>g Y/\Q .next B Y
 |v::vs=>λ B Y=>g Y/\step v (wx (forLoop step g vs Q) Q) B Y
def got(v:V)(Q:V->Prop):Prop:=match v with
 | .aC=>False|v=>Q v
def opt{α:Type}(x:Option α)(Q:α->Prop):Prop:=match x with
 |some a=>Q a|none=>False
noncomputable def iS(v:V):Option (Option Int):=match v with
 | .none=>some none| .int i=>some (some i)
 |_=>none
noncomputable def TX(star:Bool)(v:V)(Y:Mem):Option aw:=match star with
 |false=>some [v]|true=>match v with
  | .tuple vs=>if short vs then some vs else none|v=>match bD Y v with
   |some vs=>if short vs then some vs else none|none=>none
noncomputable def ME.isStar(m:ME):Bool:=decide (m.ctorIdx=10)
def ME.mJ{P:ME->Prop}{m:ME}(h:m.isStar=true)(f:∀a,P (.star a)):P m:=ME.star.elim m (ae h) f
noncomputable def Kv(a b:V):Option aw:=match a with
 | .list xs=>match b with
  | .list ys=>some (List.zipWith (λ x y=> .tuple [x,y]) xs ys)|_=>none
 |_=>none
noncomputable def TY(Y:Mem)(a b:V):Option aw:=b.int?.bind λ n=>(bD Y a).bind λ xs=>if decide (0<=n)&&(decide (n<=1000)&&decide (xs.length<=1000))then some (List.replicate n.toNat xs).flatten else none
noncomputable def XM(i:Int):Bool:=decide (0<=i)&&decide (i<=1000000)
noncomputable def GO(v:V):Option aw:=match v with
 | .int b=>if XM b then some (fN 0 b 1)else none|_=>none
noncomputable def GP(v w:V):Option aw:=match v with
 | .int a=>match w with
  | .int b=>if Builtin.Range.small a b 1 then some (fN a b 1)else none|_=>none
 |_=>none
noncomputable def XN(a b c:Int):Bool:=decide (c≠0)&&(decide (c.natAbs<1073741824)&&Builtin.Range.small a b c)
noncomputable def GQ(v w u:V):Option aw:=match v with
 | .int a=>match w with
  | .int b=>match u with
   | .int c=>if XN a b c then some (fN a b c)else none|_=>none
  |_=>none
 |_=>none
noncomputable def kQ:aw->Option aw:=λ vs=>match vs with
 |[]=>none|v::r=>match r with
  |[]=>GO v|w::r=>match r with
   |[]=>GP v w|u::r=>match r with
    |[]=>GQ v w u|_::_=>none
def isInt(v:V)(k:Int->Prop):Prop:=match v with
 | .int i=>k i|_=>False
def Bu{v:V}{k:Int->Prop}{P:Prop}(h:isInt v k)(g:∀i,v= .int i->k i->P):P:=by induction v using vC<;>first|exact g _ rfl h|exact h.elim
noncomputable def setOf(vs:aw):List Int:=(vs.filterMap V.int?).foldl insI []
mutual
def wE(J:Cx)(pg:Pg)(d:Nat):ME->(fA)->aw->Mem->Prop
 | .lit v,Q,_,Y=>Q v Y| .var i,Q,B,Y=>got (B.getD i .aC) λ v=>Q v Y
 | .bT k,Q,_,Y=>opt pg.G[k]? λ x=>Q x.2 Y| .bin s a b,Q,B,Y=>wE J pg d a (λ va Y=>wE J pg d b (λ vb Y=>opt (lV Y s va vb) λ v=>Q v Y) B Y) B Y
 | .cmp s a b,Q,B,Y=>wE J pg d a (λ va Y=>wE J pg d b (λ vb Y=>opt (qm Y s va vb) λ v=>Q (.bool v) Y) B Y) B Y| .qp a U b M e,Q,B,Y=>wE J pg d a (λ va Y=>wE J pg d b (λ vb Y=>opt (qm Y U va vb) λ q=>match q with
   |true=>wE J pg d e (λ N Y=>opt (qm Y M vb N) λ v=>Q (.bool v) Y) B Y|false=>Q (.bool false) Y) B Y) B Y
 | .neg a,Q,B,Y=>wE J pg d a (λ va Y=>match va with| .int i=>Q (.int (-i)) Y|_=>False) B Y| .Qw t a b,Q,B,Y=>wE J pg d t (λ v Y=>opt (cQ Y v) λ q=>match q with
   |true=>wE J pg d a Q B Y|false=>wE J pg d b Q B Y) B Y
 | .bor a b,Q,B,Y=>wE J pg d a (λ v Y=>opt (cQ Y v) λ q=>match q with
   |true=>Q v Y|false=>wE J pg d b Q B Y) B Y
 | .call f args ns kws,Q,B,Y=>wE J pg d f (λ G Y=>wEs J pg d args (λ vs Y=>wEs J pg d kws (λ ks Y=>fM J d G vs ns ks Q Y) B Y) B Y) B Y| .star _,_,_,_=>False
 | .a9 o m args,Q,B,Y=>wE J pg d o (λ v Y=>opt (kP pg Y v m) λ x=>wEs J pg d args (λ vs Y=>fM J d x.1 (x.2++vs) [] [] Q Y) B Y) B Y| .nE o m args,Q,B,Y=>wE J pg d o (λ v Y=>match v with
   | .ref i=>match Y.f i with
    | .inst C _=>pg.insts.contains C=true/\opt (pg.a9 C m) λ fa=>wEs J pg d args (λ vs Y=>fM J d (.glob fa) (.ref i::vs) [] [] Q Y) B Y|_=>False
   |_=>False) B Y
 | .attr o k,Q,B,Y=>wE J pg d o (λ v Y=>match v with
   | .ref i=>match Y.f i with
    | .inst C as=>pg.insts.contains C=true/\opt (as.lookup k) λ w=>got w λ w=>Q w Y|_=>False
   |_=>False) B Y
 | .slot o j,Q,B,Y=>wE J pg d o (λ v Y=>match v with
   | .ref i=>match Y.f i with
    | .node C vs=>C=pg.tB/\opt vs[j]? λ w=>got w λ w=>Q w Y|_=>False
   |_=>False) B Y
 | .sub o i,Q,B,Y=>wE J pg d o (λ vo Y=>wE J pg d i (λ vi Y=>opt (iQ Y vo vi) λ v=>Q v Y) B Y) B Y| .slice o lo hi,Q,B,Y=>wE J pg d o (λ vo Y=>wO J pg d lo (λ L Y=>wO J pg d hi (λ H Y=>opt (iS L) λ l=>opt (iS H) λ h=>opt (qo Y vo l h) λ v=>Q v Y) B Y) B Y) B Y
 | .list mt es,Q,B,Y=>wEs J pg d es (λ vs Y=>match mt with
   |false=>Q (.list vs) Y|true=>Q (.ref Y.n) (Y.alloc (.list vs))) B Y
 | .tuple es,Q,B,Y=>wEs J pg d es (λ vs Y=>Q (.tuple vs) Y) B Y| .wq,Q,_,Y=>Q (.ref Y.n) (Y.alloc (.dict [] 0))
 | .comp mt elt u it tests,Q,B,Y=>wE J pg d it (λ vi Y=>opt (jx Y vi) λ x=>
   compLoop (λ v K Y=>opt (lX x.1 u v B) λ c=>wTs J pg d tests (λ b Y=>match b with
    |true=>wE J pg d elt (λ r Y=>K [r] Y) c Y|false=>K [] Y) c Y) x.2.2 x.2.1 (λ E Y=>short E=true/\match mt with
     |false=>Q (.list E) Y|true=>Q (.ref Y.n) (Y.alloc (.list E))) [] Y) B Y
 | .freeze a,Q,B,Y=>wE J pg d a (λ v Y=>match v with
   | .ref i=>opt (Y.f i).eI λ vs=>Q (.list vs) (Y.set i .dead)|_=>False) B Y
 | .zu a,Q,B,Y=>wE J pg d a (λ v Y=>opt (cQ Y v) λ b=>Q (.bool (!b)) Y) B Y| .xr es,Q,B,Y=>wTs J pg d es (λ b Y=>Q (.bool b) Y) B Y
 | .Qx es,Q,B,Y=>SR J pg d es (λ b Y=>Q (.bool b) Y) B Y| .zip _ a b,Q,B,Y=>wE J pg d a (λ va Y=>wE J pg d b (λ vb Y=>opt (Kv va vb) λ vs=>Q (.it true vs) Y) B Y) B Y
 | .range _ as,Q,B,Y=>wEs J pg d as (λ vs Y=>opt (kQ vs) λ vs=>Q (.it false vs) Y) B Y| .values o,Q,B,Y=>wE J pg d o (λ v Y=>match v with| .ref i=>Q (.lh i) Y|_=>False) B Y
 | .dZ _ o,Q,B,Y=>wE J pg d o (λ v Y=>match v with
   | .ref i=>match Y.f i with
    | .inst C as=>pg.insts.contains C=true/\opt (pg.a9 C 15) λ fa=>Q (.ref Y.n) (Y.alloc (.dZ fa (.ref i)))|_=>False
   |_=>False) B Y
 | .tv _ o,Q,B,Y=>wE J pg d o (λ v Y=>match v with
   | .ref i=>opt (Y.f i).eI λ D=>Q (.ref Y.n) (Y.alloc (.yQ i 0))|_=>False) B Y
 | .GF a,Q,B,Y=>wE J pg d a Q B Y| .mulM a b,Q,B,Y=>wE J pg d a (λ va Y=>wE J pg d b (λ vb Y=>opt (TY Y va vb) λ xs=>Q (.ref Y.n) (Y.alloc (.list xs))) B Y) B Y
 | .Ey elt u it,Q,B,Y=>wE J pg d it (λ vi Y=>opt (jx Y vi) λ x=>
   compLoop (λ v K Y=>opt (lX x.1 u v B) λ c=>wE J pg d elt (λ r Y=>isInt r λ k=>(decide (0<=k)&&decide (k<1000))=true/\K [r] Y) c Y) x.2.2 x.2.1 (λ E Y=>Q (.ref Y.n) (Y.alloc (.w7 (setOf E)))) [] Y) B Y
 | .wt _ _ args,Q,B,Y=>wEs J pg d args (λ vs Y=>opt (kQ vs) λ ws=>short ws=true/\Q (.list ws) Y) B Y| .tA i,Q,B,Y=>isInt (B.getD i .aC) λ k=>small k=true/\∀l,Q (.str l) Y
def wEs(J:Cx)(pg:Pg)(d:Nat):List ME->(aw->Mem->Prop)->aw->Mem->Prop
 |[],Q,_,Y=>Q [] Y| .star a::es,Q,B,Y=>wE J pg d a (λ v Y=>opt (TX true v Y) λ vs=>wEs J pg d es (λ ws Y=>Q (vs++ws) Y) B Y) B Y
 |e::es,Q,B,Y=>wE J pg d e (λ v Y=>wEs J pg d es (λ ws Y=>Q (v::ws) Y) B Y) B Y
def wO(J:Cx)(pg:Pg)(d:Nat):Option ME->(fA)->aw->Mem->Prop
 |none,Q,_,Y=>Q .none Y|some e,Q,B,Y=>wE J pg d e Q B Y
def wTs(J:Cx)(pg:Pg)(d:Nat):List ME->(Bool->Mem->Prop)->aw->Mem->Prop
 |[],Q,_,Y=>Q true Y|e::es,Q,B,Y=>wE J pg d e (λ v Y=>opt (cQ Y v) λ b=>match b with
   |true=>wTs J pg d es Q B Y|false=>Q false Y) B Y
def SR(J:Cx)(pg:Pg)(d:Nat):List ME->(Bool->Mem->Prop)->aw->Mem->Prop
 |[],Q,_,Y=>Q false Y|e::es,Q,B,Y=>wE J pg d e (λ v Y=>opt (cQ Y v) λ b=>match b with
   |true=>Q true Y|false=>SR J pg d es Q B Y) B Y
end
noncomputable def NP(Y:Mem)(i:Nat)(b:V)(o:O):Option (V×Mem):=match o with
 | .list xs=>match bD Y b with
  |some ys=>if short xs&&short ys then some (.ref i,Y.set i (.list (xs++ys)))else none|none=>none
 |_=>none
noncomputable def TZ(Y:Mem)(a b:V):Option (V×Mem):=match a with
 | .ref i=>NP Y i b (Y.f i)| .int i=>match b with
  | .int j=>some (.int (i+j),Y)|_=>none
 | .str x=>match b with
  | .str y=>if decide (x.length+y.length<=1000000)then some (.str (x++y),Y)else none|_=>none
 |_=>none
noncomputable def vm(Y:Mem)(e:Operator)(a b:V):Option (V×Mem):=match e with
 | .Add=>TZ Y a b| .Sub=>match a with
  | .int i=>match b with
   | .int j=>some (.int (i-j),Y)|_=>none
  |_=>none
 |_=>none
noncomputable def putD(bJ:List (Int×V))(k:Int)(v:V):List (Int×V):=match bJ with
 |[]=>[(k,v)]|(j,w)::r=>if j=k then(j,v)::r else(j,w)::putD r k v
noncomputable def sC(Y:Mem)(a:Nat)(k:Int)(v:V)(o:O):Option (Nat->Mem):=match o with
 | .list vs=>if decide (0<=k)&&decide (k<vs.length)&&short vs then some (λ D=>Y.set a (.list (vs.set k.toNat v)))else none| .dict bJ ep=>if short bJ then some (λ ep=>Y.set a (.dict (putD bJ k v) ep))else none
 |_=>none
noncomputable def qq(Y:Mem)(o i v:V):Option (Nat->Mem):=match o with
 | .ref a=>match i with
  | .int k=>sC Y a k v (Y.f a)|_=>none
 |_=>none
def wG(J:Cx)(pg:Pg)(d:Nat):vk->V->(aw->Mem->Prop)->aw->Mem->Prop
 | .var i,v,Q,B,Y=>Q (B.set i v) Y| .attr o k,v,Q,B,Y=>wE J pg d o (λ w Y=>match w with
   | .ref i=>match Y.f i with
    | .inst C as=>pg.insts.contains C=true/\k<9/\as.length<=100/\Q B (Y.set i (.inst C (m7 as k v)))|_=>False
   |_=>False) B Y
 | .slot o j,v,Q,B,Y=>wE J pg d o (λ w Y=>match w with
   | .ref i=>match Y.f i with
    | .node C vs=>C=pg.tB/\j<3/\Q B (Y.set i (.node C (vs.set j v)))|_=>False
   |_=>False) B Y
 | .sub o i,v,Q,B,Y=>wE J pg d o (λ w Y=>wE J pg d i (λ u Y=>opt (qq Y w u v) λ f=>∀ep,Q B (f ep)) B Y) B Y
def T2(cx:Cx)(pg:Pg)(d:Nat):List vk->V->(aw->Mem->Prop)->aw->Mem->Prop
 |[],_,Q,fr,σ=>Q fr σ|t::ts,v,Q,fr,σ=>wG cx pg d t v (λ fr σ=>T2 cx pg d ts v Q fr σ) fr σ
noncomputable def iT:aj->aw->aw->aw:=λ is=>match is with
 |[]=>λ D B=>B|i::is=>λ vs B=>match vs with
  |[]=>B|v::vs=>iT is vs (B.set i v)
noncomputable def Kw(Y:Mem):V->Option aw
 | .tuple vs=>some vs|v=>bD Y v
def isRef(v:V)(k:Nat->Prop):Prop:=match v with
 | .ref i=>k i|_=>False
def isList(o:O)(k:aw->Prop):Prop:=match o with
 | .list vs=>k vs|_=>False
def Bv(o:O)(k:List (Int×V)->Prop):Prop:=match o with
 | .dict bJ _=>k bJ|_=>False
def GR(o:O)(k:Nat->Nat->Prop):Prop:=match o with
 | .yQ l i=>k l i|_=>False
def xt{v:V}{k:Nat->Prop}{P:Prop}(h:isRef v k)(g:∀i,v= .ref i->k i->P):P:=by induction v using vC<;>first|exact g _ rfl h|exact h.elim
def xu{o:O}{k:aw->Prop}{P:Prop}(h:isList o k)(g:∀vs,o= .list vs->k vs->P):P:=by induction o<;>first|exact g _ rfl h|exact h.elim
def Kx{o:O}{k:List (Int×V)->Prop}{P:Prop}(h:Bv o k)(g:∀bJ ep,o= .dict bJ ep->k bJ->P):P:=by induction o<;>first|exact g _ _ rfl h|exact h.elim
def NQ{o:O}{k:Nat->Nat->Prop}{P:Prop}(h:GR o k)(g:∀l i,o= .yQ l i->k l i->P):P:=by induction o<;>first|exact g _ _ rfl h|exact h.elim
def MD(Q:Fl->aw->Mem->Prop)(B:aw)(Y:Mem)(a b e j:Nat)(k is:aw)(bJ:List (Int×V)):Prop:=opt k.getLast? λ x=>isInt x λ x=>(short k&&short bJ&&(bJ.lookup x).isSome&& !decide (a=b))=true/\∀ep,Q .next B ((((Y.set j .dead).set a (.list k.dropLast)).set e (.dict (bJ.filter λ u=> !decide (u.1=x)) ep)).set b (.list is.dropLast))
def QB(i st it nd:Nat)(Q:Fl->aw->Mem->Prop)(B:aw)(Y:Mem):Prop:=isRef (B.getD st .aC) λ a=>isRef (B.getD it .aC) λ b=>isRef (B.getD nd .aC) λ e=>isList (Y.f a) λ x=>isList (Y.f b) λ is=>Bv (Y.f e) λ bJ=>opt is.getLast? λ v=>isRef v λ j=>short is=true/\GR (Y.f j) λ l k=>isList (Y.f l) λ vs=>match vs[k]?with
   |some v=>Q .brk (B.set i v) (Y.set j (.yQ l (k+1)))|none=>MD Q B Y a b e j x is bJ
noncomputable def SU(h:Option (Nat×V))(B:aw):aw:=match h with
 |none=>B|some x=>B.set x.1 x.2
def MF(Q:Fl->aw->Mem->Prop)(i:Fl)(B:aw)(Y:Mem):Prop:=match i with
 | .exc _=>False|i=>Q i B Y
def QC{Q:Fl->aw->Mem->Prop}{i:Fl}(h:MF Q i B Y):Q i B Y:=by induction i<;>first|exact h.elim|exact h
def T3(J:Cx)(pg:Pg)(d:Nat):List vk->aw->(aw->Mem->Prop)->aw->Mem->Prop:=λ ts=>match ts with
 |[]=>λ D Q B Y=>Q B Y|t::ts=>λ vs Q B Y=>match vs with
  |[]=>False|v::vs=>wG J pg d t v (λ B Y=>T3 J pg d ts vs Q B Y) B Y
def C4(pg:Pg)(g:Nat):Nat->Prop
 |0=>∃x,pg.G[g]? =some (x,.ty .iO)|C+1=>pg.Kr.contains (C+1)=true/\∃x,pg.G[g]? =some (x,.glob (C+1))
mutual
def wS(J:Cx)(pg:Pg)(d:Nat):MS->(Fl->aw->Mem->Prop)->aw->Mem->Prop
 | .assign ts e,Q,B,Y=>wE J pg d e (λ v Y=>T2 J pg d ts v (λ B Y=>Q .next B Y) B Y) B Y| .unpack is e,Q,B,Y=>wE J pg d e (λ v Y=>opt (Kw Y v) λ vs=>is.length=vs.length/\Q .next (iT is vs B) Y) B Y
 | .kO ts e,Q,B,Y=>wE J pg d e (λ v Y=>opt (Kw Y v) λ vs=>ts.length=vs.length/\T3 J pg d ts vs (λ B Y=>Q .next B Y) B Y) B Y| .aug i s e,Q,B,Y=>got (B.getD i .aC) λ a=>wE J pg d e (λ b Y=>opt (vm Y s a b) λ x=>Q .next (B.set i x.1) x.2) B Y
 | .ju o k s e,Q,B,Y=>wE J pg d o (λ w Y=>match w with
   | .ref i=>match Y.f i with
    | .inst C as=>pg.insts.contains C=true/\opt (as.lookup k) λ a=>got a λ a=>wE J pg d e (λ b Y=>opt (vm Y s a b) λ x=>match x.2.f i with
     | .inst c p=>pg.insts.contains c=true/\k<9/\p.length<=100/\Q .next B (x.2.set i (.inst c (m7 p k x.1)))
     |_=>False) B Y
    |_=>False
   |_=>False) B Y
 | .jv o j s e,Q,B,Y=>wE J pg d o (λ w Y=>match w with
   | .ref i=>match Y.f i with
    | .node C vs=>C=pg.tB/\opt vs[j]? λ a=>got a λ a=>wE J pg d e (λ b Y=>opt (vm Y s a b) λ x=>match x.2.f i with
     | .node c u=>c=pg.tB/\j<3/\Q .next B (x.2.set i (.node c (u.set j x.1)))
     |_=>False) B Y
    |_=>False
   |_=>False) B Y
 | .dC t a b,Q,B,Y=>wE J pg d t (λ v Y=>opt (cQ Y v) λ q=>match q with
   |true=>wSs J pg d a Q B Y|false=>wSs J pg d b Q B Y) B Y
 | .wu i e a b,Q,B,Y=>wE J pg d e (λ v Y=>opt (xl v) λ q=>match q with
   |true=>wSs J pg d a Q (B.set i v) Y|false=>wSs J pg d b Q (B.set i v) Y) B Y
 | .gq t body M,Q,B,Y=>∃(I:Nat->aw->Mem->Prop)(n:Nat),I n B Y/\∀n B Y,I n B Y->wE J pg d t (λ v Y=>opt (cQ Y v) λ q=>match q with
    |true=>wSs J pg d body (wx (λ B Y=>∃m,m<n/\I m B Y) Q) B Y|false=>wSs J pg d M (MF Q) B Y) B Y
 | .ir L it body,Q,B,Y=>wE J pg d it (λ vi Y=>opt (jx Y vi) λ x=>
   forLoop (λ v K B Y=>opt (lX x.1 L v B) λ N=>wSs J pg d body K N Y) x.2.2 x.2.1 Q B Y) B Y
 | .oW i it body,Q,B,Y=>wE J pg d it (λ vi Y=>match vi with
   | .ref j=>∃(I:Nat->aw->Mem->Prop)(n:Nat),I n B Y/\∀n B Y,I n B Y->match Y.f j with
    | .rN=>Q .next B Y
    | .dZ fa self=>(∃C,pg.insts.contains C=true/\pg.a9 C 15=some fa)/\fM J (d-1) (.glob fa) [self] [] [] (λ v Y=>Y.f j= .dZ fa self/\match v with
     | .str l=>match l with
      |[]=>Q .next B (Y.set j .rN)
      |a::l=>wSs J pg d body (wx (λ B Y=>∃m,m<n/\I m B Y) Q) (B.set i (.str (a::l))) Y
     |_=>False) Y
    |_=>False
   |_=>False) B Y
 | .ret e,Q,B,Y=>wE J pg d e (λ v Y=>Q (.ret v) B Y) B Y| .expr e,Q,B,Y=>wE J pg d e (λ D Y=>Q .next B Y) B Y
 | .brk,Q,B,Y=>Q .brk B Y| .cont,Q,B,Y=>Q .cont B Y
 | .jw t,Q,B,Y=>wE J pg d t (λ v Y=>opt (cQ Y v) λ q=>q=true/\Q .next B Y) B Y| .Ez body,Q,B,Y=>wSs J pg d body (MF Q) B Y
 | .dead,_,_,_=>False| .mI i st it nd _,Q,B,Y=>QB i st it nd Q B Y
 | .lW g C args,Q,B,Y=>C4 pg g C/\wEs J pg d args (λ vs Y=>short vs=true/\Q (.exc C) B Y) B Y| .lp o m args,Q,B,Y=>wE J pg d o (λ v Y=>opt (kP pg Y v m) λ x=>wEs J pg d args (λ vs Y=>lp J d x.1 (x.2++vs) (λ D Y=>Q .next B Y) (λ C Y=>Q (.exc C) B Y) Y) B Y) B Y
 | .EA a g C h,Q,B,Y=>C4 pg g C/\wSs J pg d a (λ U B Y=>match U with
   | .exc c=>c=C/\Q .next (SU h B) Y
   |U=>Q U B Y) B Y
def wSs(J:Cx)(pg:Pg)(d:Nat):List MS->(Fl->aw->Mem->Prop)->aw->Mem->Prop
 |[],Q,B,Y=>Q .next B Y
 |st::r,Q,B,Y=>wS J pg d st (λ i B Y=>match i with
   | .next=>wSs J pg d r Q B Y|i=>Q i B Y) B Y
end
noncomputable def l0{α:Type}(l:List α):Bool:=match l with
 |[]=>true|_=>false
def lq{α:Type}{l:List α}(h:l0 l=true):l=[]:=by induction l<;>first|rfl|exact nf h
noncomputable def l1{α:Type}(l:List α)(f:α->Bool):Bool:=match l with
 |[]=>false|x::r=>match r with
  |[]=>f x|_=>false
def wy{α:Type}{P:List α->Prop}{f:α->Bool}{l:List α}(h:l1 l f=true)(g:∀x,f x=true->P [x]):P l:=by induction l with
 |nil=>exact nf h|cons x r=>induction r<;>first|exact g _ h|exact nf h
noncomputable def l2{α:Type}(l:List α)(f:α->α->Bool):Bool:=match l with
 |[]=>false|x::r=>l1 r (f x)
def J4{α:Type}{P:List α->Prop}{f:α->α->Bool}{l:List α}(h:l2 l f=true)(g:∀x y,f x y=true->P [x,y]):P l:=by induction l with
 |nil=>exact nf h|cons x r=>exact wy (P:=λ r=>P (x::r)) h λ y h=>g x y h
noncomputable def l3{α:Type}(l:List α)(f:α->α->α->Bool):Bool:=match l with
 |[]=>false|x::r=>l2 r (f x)
def XO{α:Type}{P:List α->Prop}{f:α->α->α->Bool}{l:List α}(h:l3 l f=true)(g:∀x y z,f x y z=true->P [x,y,z]):P l:=by induction l with
 |nil=>exact nf h|cons x r=>exact J4 (P:=λ r=>P (x::r)) h λ y z h=>g x y z h
noncomputable def cw(e:aQ)(kk:Str->Pos->Bool):Bool:=if h:e.ctorIdx=23 then PySem.Expr.Name.elim (motive_1:=λ D=>Bool) e h kk else false
def bU{P:aQ->Prop}{kk:Str->Pos->Bool}{e:aQ}(h:cw e kk=true)(n:∀x p,kk x p=true->P (.Name x p)):P e:=if q:e.ctorIdx=23 then PySem.Expr.Name.elim (motive_1:=λ e=>cw e kk=true->P e) e q n h else nf ((ct q).symm.trans h)
noncomputable def bP(e:aQ)(kk:aQ->Str->Pos->Bool):Bool:=if h:e.ctorIdx=20 then PySem.Expr.Attribute.elim (motive_1:=λ D=>Bool) e h kk else false
def bI{P:aQ->Prop}{kk:aQ->Str->Pos->Bool}{e:aQ}(h:bP e kk=true)(T:∀o n p,kk o n p=true->P (.Attribute o n p)):P e:=if q:e.ctorIdx=20 then PySem.Expr.Attribute.elim (motive_1:=λ e=>bP e kk=true->P e) e q T h else nf ((ct q).symm.trans h)
noncomputable def gP(e:aQ)(kk:aQ->List aQ->List Keyword->Pos->Bool):Bool:=if h:e.ctorIdx=16 then PySem.Expr.Call.elim (motive_1:=λ D=>Bool) e h kk else false
def eX{P:aQ->Prop}{kk:aQ->List aQ->List Keyword->Pos->Bool}{e:aQ}(h:gP e kk=true)(n:∀g a ks p,kk g a ks p=true->P (.Call g a ks p)):P e:=if q:e.ctorIdx=16 then PySem.Expr.Call.elim (motive_1:=λ e=>gP e kk=true->P e) e q n h else nf ((ct q).symm.trans h)
noncomputable def ft(e:aQ)(kk:Const->Nat->Pos->Bool):Bool:=if h:e.ctorIdx=19 then PySem.Expr.Constant.elim (motive_1:=λ D=>Bool) e h kk else false
def gu{P:aQ->Prop}{kk:Const->Nat->Pos->Bool}{e:aQ}(h:ft e kk=true)(T:∀c n p,kk c n p=true->P (.Constant c n p)):P e:=if q:e.ctorIdx=19 then PySem.Expr.Constant.elim (motive_1:=λ e=>ft e kk=true->P e) e q T h else nf ((ct q).symm.trans h)
noncomputable def xw(e:aQ)(kk:aQ->Operator->aQ->Pos->Bool):Bool:=if h:e.ctorIdx=2 then PySem.Expr.BinOp.elim (motive_1:=λ D=>Bool) e h kk else false
def C5{P:aQ->Prop}{kk:aQ->Operator->aQ->Pos->Bool}{e:aQ}(h:xw e kk=true)(n:∀a o b p,kk a o b p=true->P (.BinOp a o b p)):P e:=if q:e.ctorIdx=2 then PySem.Expr.BinOp.elim (motive_1:=λ e=>xw e kk=true->P e) e q n h else nf ((ct q).symm.trans h)
noncomputable def lY(e:aQ)(kk:aQ->List CmpOp->List aQ->Pos->Bool):Bool:=if h:e.ctorIdx=15 then PySem.Expr.Compare.elim (motive_1:=λ D=>Bool) e h kk else false
def qr{P:aQ->Prop}{kk:aQ->List CmpOp->List aQ->Pos->Bool}{e:aQ}(h:lY e kk=true)(n:∀a os bs p,kk a os bs p=true->P (.Compare a os bs p)):P e:=if q:e.ctorIdx=15 then PySem.Expr.Compare.elim (motive_1:=λ e=>lY e kk=true->P e) e q n h else nf ((ct q).symm.trans h)
noncomputable def j8(e:aQ)(kk:UnaryOp->aQ->Pos->Bool):Bool:=if h:e.ctorIdx=3 then PySem.Expr.UnaryOp.elim (motive_1:=λ D=>Bool) e h kk else false
def qs{P:aQ->Prop}{kk:UnaryOp->aQ->Pos->Bool}{e:aQ}(h:j8 e kk=true)(n:∀o a p,kk o a p=true->P (.UnaryOp o a p)):P e:=if q:e.ctorIdx=3 then PySem.Expr.UnaryOp.elim (motive_1:=λ e=>j8 e kk=true->P e) e q n h else nf ((ct q).symm.trans h)
noncomputable def Bw(e:aQ)(kk:aQ->aQ->aQ->Pos->Bool):Bool:=if h:e.ctorIdx=5 then PySem.Expr.IfExp.elim (motive_1:=λ D=>Bool) e h kk else false
def Ky{P:aQ->Prop}{kk:aQ->aQ->aQ->Pos->Bool}{e:aQ}(h:Bw e kk=true)(n:∀t a b p,kk t a b p=true->P (.IfExp t a b p)):P e:=if q:e.ctorIdx=5 then PySem.Expr.IfExp.elim (motive_1:=λ e=>Bw e kk=true->P e) e q n h else nf ((ct q).symm.trans h)
noncomputable def oX(e:aQ)(kk:PySem.BoolOp->List aQ->Pos->Bool):Bool:=if h:e.ctorIdx=0 then PySem.Expr.BoolOp.elim (motive_1:=λ D=>Bool) e h kk else false
def tD{P:aQ->Prop}{kk:PySem.BoolOp->List aQ->Pos->Bool}{e:aQ}(h:oX e kk=true)(n:∀o l p,kk o l p=true->P (.BoolOp o l p)):P e:=if q:e.ctorIdx=0 then PySem.Expr.BoolOp.elim (motive_1:=λ e=>oX e kk=true->P e) e q n h else nf ((ct q).symm.trans h)
noncomputable def eY(e:aQ)(kk:aQ->aQ->Pos->Bool):Bool:=if h:e.ctorIdx=21 then PySem.Expr.Subscript.elim (motive_1:=λ D=>Bool) e h kk else false
def fu{P:aQ->Prop}{kk:aQ->aQ->Pos->Bool}{e:aQ}(h:eY e kk=true)(n:∀o i p,kk o i p=true->P (.Subscript o i p)):P e:=if q:e.ctorIdx=21 then PySem.Expr.Subscript.elim (motive_1:=λ e=>eY e kk=true->P e) e q n h else nf ((ct q).symm.trans h)
noncomputable def Bx(e:aQ)(kk:Option aQ->Option aQ->Option aQ->Pos->Bool):Bool:=if h:e.ctorIdx=26 then PySem.Expr.Slice.elim (motive_1:=λ D=>Bool) e h kk else false
def Kz{P:aQ->Prop}{kk:Option aQ->Option aQ->Option aQ->Pos->Bool}{e:aQ}(h:Bx e kk=true)(n:∀l u t p,kk l u t p=true->P (.Slice l u t p)):P e:=if q:e.ctorIdx=26 then PySem.Expr.Slice.elim (motive_1:=λ e=>Bx e kk=true->P e) e q n h else nf ((ct q).symm.trans h)
noncomputable def GS(e:aQ)(kk:List aQ->Pos->Bool):Bool:=if h:e.ctorIdx=24 then PySem.Expr.List.elim (motive_1:=λ D=>Bool) e h kk else false
def NS{P:aQ->Prop}{kk:List aQ->Pos->Bool}{e:aQ}(h:GS e kk=true)(n:∀l p,kk l p=true->P (.List l p)):P e:=if q:e.ctorIdx=24 then PySem.Expr.List.elim (motive_1:=λ e=>GS e kk=true->P e) e q n h else nf ((ct q).symm.trans h)
noncomputable def kR(e:aQ)(kk:List aQ->Pos->Bool):Bool:=if h:e.ctorIdx=18 then PySem.Expr.JoinedStr.elim (motive_1:=λ D=>Bool) e h kk else false
def rh{P:aQ->Prop}{kk:List aQ->Pos->Bool}{e:aQ}(h:kR e kk=true)(n:∀l p,kk l p=true->P (.JoinedStr l p)):P e:=if q:e.ctorIdx=18 then PySem.Expr.JoinedStr.elim (motive_1:=λ e=>kR e kk=true->P e) e q n h else nf ((ct q).symm.trans h)
noncomputable def nT(e:aQ)(kk:List aQ->Nat->Pos->Bool):Bool:=if h:e.ctorIdx=25 then PySem.Expr.Tuple.elim (motive_1:=λ D=>Bool) e h kk else false
def sD{P:aQ->Prop}{kk:List aQ->Nat->Pos->Bool}{e:aQ}(h:nT e kk=true)(T:∀l n p,kk l n p=true->P (.Tuple l n p)):P e:=if q:e.ctorIdx=25 then PySem.Expr.Tuple.elim (motive_1:=λ e=>nT e kk=true->P e) e q T h else nf ((ct q).symm.trans h)
noncomputable def GU(e:aQ)(kk:List (Option aQ)->List aQ->Pos->Bool):Bool:=if h:e.ctorIdx=6 then PySem.Expr.Dict.elim (motive_1:=λ D=>Bool) e h kk else false
def NT{P:aQ->Prop}{kk:List (Option aQ)->List aQ->Pos->Bool}{e:aQ}(h:GU e kk=true)(n:∀a b p,kk a b p=true->P (.Dict a b p)):P e:=if q:e.ctorIdx=6 then PySem.Expr.Dict.elim (motive_1:=λ e=>GU e kk=true->P e) e q n h else nf ((ct q).symm.trans h)
noncomputable def qt(e:aQ)(kk:aQ->List Comprehension->Scope->Pos->Bool):Bool:=if h:e.ctorIdx=8 then PySem.Expr.ListComp.elim (motive_1:=λ D=>Bool) e h kk else false
def tE{P:aQ->Prop}{kk:aQ->List Comprehension->Scope->Pos->Bool}{e:aQ}(h:qt e kk=true)(n:∀a g sc p,kk a g sc p=true->P (.ListComp a g sc p)):P e:=if q:e.ctorIdx=8 then PySem.Expr.ListComp.elim (motive_1:=λ e=>qt e kk=true->P e) e q n h else nf ((ct q).symm.trans h)
noncomputable def tF(e:aQ)(kk:aQ->List Comprehension->Scope->Pos->Bool):Bool:=if h:e.ctorIdx=9 then PySem.Expr.SetComp.elim (motive_1:=λ D=>Bool) e h kk else false
def EC{P:aQ->Prop}{kk:aQ->List Comprehension->Scope->Pos->Bool}{e:aQ}(h:tF e kk=true)(n:∀a g sc p,kk a g sc p=true->P (.SetComp a g sc p)):P e:=if q:e.ctorIdx=9 then PySem.Expr.SetComp.elim (motive_1:=λ e=>tF e kk=true->P e) e q n h else nf ((ct q).symm.trans h)
noncomputable def NU(e:aQ)(kk:Str->Bool):Bool:=if h:e.ctorIdx=17 then PySem.Expr.FormattedValue.elim (motive_1:=λ D=>Bool) e h λ v c b D=>decide (c=114)&&b.isNone&&cw v λ x D=>kk x else false
def QD{P:aQ->Prop}{kk:Str->Bool}{e:aQ}(h:NU e kk=true)(n:∀x N p,kk x=true->P (.FormattedValue (.Name x N) 114 none p)):P e:=if q:e.ctorIdx=17 then PySem.Expr.FormattedValue.elim (motive_1:=λ e=>NU e kk=true->P e) e q (λ v c b p h=>by
  have h:=ao h
  have M:=ao h.1
  refine(ae M.1).symm▸(qY.mp M.2).symm▸?_
  exact bU (P:=λ v=>P (.FormattedValue v 114 none p)) h.2 λ x N h=>n x N p h) h else nf ((ct q).symm.trans h)
noncomputable def tG(e:aQ)(kk:aQ->Pos->Bool):Bool:=if h:e.ctorIdx=22 then PySem.Expr.Starred.elim (motive_1:=λ D=>Bool) e h kk else false
def qu{P:aQ->Prop}{kk:aQ->Pos->Bool}{e:aQ}(h:tG e kk=true)(n:∀a p,kk a p=true->P (.Starred a p)):P e:=if q:e.ctorIdx=22 then PySem.Expr.Starred.elim (motive_1:=λ e=>tG e kk=true->P e) e q n h else nf ((ct q).symm.trans h)
noncomputable def nU(e:aQ)(kk:aQ->aQ->Pos->Bool):Bool:=if h:e.ctorIdx=1 then PySem.Expr.NamedExpr.elim (motive_1:=λ D=>Bool) e h kk else false
def zw{P:aQ->Prop}{kk:aQ->aQ->Pos->Bool}{e:aQ}(h:nU e kk=true)(n:∀a b p,kk a b p=true->P (.NamedExpr a b p)):P e:=if q:e.ctorIdx=1 then PySem.Expr.NamedExpr.elim (motive_1:=λ e=>nU e kk=true->P e) e q n h else nf ((ct q).symm.trans h)
noncomputable def kS(e:cM)(kk:List aQ->aQ->Pos->Bool):Bool:=if h:e.ctorIdx=5 then PySem.Stmt.Assign.elim (motive_2:=λ D=>Bool) e h kk else false
def lZ{P:cM->Prop}{kk:List aQ->aQ->Pos->Bool}{e:cM}(h:kS e kk=true)(n:∀ts v p,kk ts v p=true->P (.Assign ts v p)):P e:=if q:e.ctorIdx=5 then PySem.Stmt.Assign.elim (motive_2:=λ e=>kS e kk=true->P e) e q n h else nf ((ct q).symm.trans h)
noncomputable def iU(e:cM)(kk:aQ->Operator->aQ->Pos->Bool):Bool:=if h:e.ctorIdx=7 then PySem.Stmt.AugAssign.elim (motive_2:=λ D=>Bool) e h kk else false
def l7{P:cM->Prop}{kk:aQ->Operator->aQ->Pos->Bool}{e:cM}(h:iU e kk=true)(n:∀t o v p,kk t o v p=true->P (.AugAssign t o v p)):P e:=if q:e.ctorIdx=7 then PySem.Stmt.AugAssign.elim (motive_2:=λ e=>iU e kk=true->P e) e q n h else nf ((ct q).symm.trans h)
noncomputable def SV(e:cM)(kk:aQ->List cM->List cM->Pos->Bool):Bool:=if h:e.ctorIdx=12 then PySem.Stmt.If.elim (motive_2:=λ D=>Bool) e h kk else false
def QE{P:cM->Prop}{kk:aQ->List cM->List cM->Pos->Bool}{e:cM}(h:SV e kk=true)(n:∀t a b p,kk t a b p=true->P (.If t a b p)):P e:=if q:e.ctorIdx=12 then PySem.Stmt.If.elim (motive_2:=λ e=>SV e kk=true->P e) e q n h else nf ((ct q).symm.trans h)
noncomputable def By(e:cM)(kk:aQ->List cM->List cM->Pos->Bool):Bool:=if h:e.ctorIdx=11 then PySem.Stmt.While.elim (motive_2:=λ D=>Bool) e h kk else false
def KA{P:cM->Prop}{kk:aQ->List cM->List cM->Pos->Bool}{e:cM}(h:By e kk=true)(n:∀t a b p,kk t a b p=true->P (.While t a b p)):P e:=if q:e.ctorIdx=11 then PySem.Stmt.While.elim (motive_2:=λ e=>By e kk=true->P e) e q n h else nf ((ct q).symm.trans h)
noncomputable def KC(e:cM)(kk:aQ->aQ->List cM->List cM->Pos->Bool):Bool:=if h:e.ctorIdx=9 then PySem.Stmt.For.elim (motive_2:=λ D=>Bool) e h kk else false
def MH{P:cM->Prop}{kk:aQ->aQ->List cM->List cM->Pos->Bool}{e:cM}(h:KC e kk=true)(n:∀t i a b p,kk t i a b p=true->P (.For t i a b p)):P e:=if q:e.ctorIdx=9 then PySem.Stmt.For.elim (motive_2:=λ e=>KC e kk=true->P e) e q n h else nf ((ct q).symm.trans h)
noncomputable def Bz(e:cM)(kk:Option aQ->Option aQ->Pos->Bool):Bool:=if h:e.ctorIdx=16 then PySem.Stmt.Raise.elim (motive_2:=λ D=>Bool) e h kk else false
def KD{P:cM->Prop}{kk:Option aQ->Option aQ->Pos->Bool}{e:cM}(h:Bz e kk=true)(n:∀v w p,kk v w p=true->P (.Raise v w p)):P e:=if q:e.ctorIdx=16 then PySem.Stmt.Raise.elim (motive_2:=λ e=>Bz e kk=true->P e) e q n h else nf ((ct q).symm.trans h)
noncomputable def xx(e:cM)(kk:Option aQ->Pos->Bool):Bool:=if h:e.ctorIdx=3 then PySem.Stmt.Return.elim (motive_2:=λ D=>Bool) e h kk else false
def GV{P:cM->Prop}{kk:Option aQ->Pos->Bool}{e:cM}(h:xx e kk=true)(n:∀v p,kk v p=true->P (.Return v p)):P e:=if q:e.ctorIdx=3 then PySem.Stmt.Return.elim (motive_2:=λ e=>xx e kk=true->P e) e q n h else nf ((ct q).symm.trans h)
noncomputable def wz(e:cM)(kk:aQ->Pos->Bool):Bool:=if h:e.ctorIdx=24 then PySem.Stmt.Expr.elim (motive_2:=λ D=>Bool) e h kk else false
def BA{P:cM->Prop}{kk:aQ->Pos->Bool}{e:cM}(h:wz e kk=true)(n:∀v p,kk v p=true->P (.Expr v p)):P e:=if q:e.ctorIdx=24 then PySem.Stmt.Expr.elim (motive_2:=λ e=>wz e kk=true->P e) e q n h else nf ((ct q).symm.trans h)
noncomputable def BB(e:cM)(kk:Pos->Bool):Bool:=if h:e.ctorIdx=26 then PySem.Stmt.Break.elim (motive_2:=λ D=>Bool) e h kk else false
def C6{P:cM->Prop}{kk:Pos->Bool}{e:cM}(h:BB e kk=true)(n:∀p,kk p=true->P (.Break p)):P e:=if q:e.ctorIdx=26 then PySem.Stmt.Break.elim (motive_2:=λ e=>BB e kk=true->P e) e q n h else nf ((ct q).symm.trans h)
noncomputable def qv(e:cM)(kk:Pos->Bool):Bool:=if h:e.ctorIdx=27 then PySem.Stmt.Continue.elim (motive_2:=λ D=>Bool) e h kk else false
def BC{P:cM->Prop}{kk:Pos->Bool}{e:cM}(h:qv e kk=true)(n:∀p,kk p=true->P (.Continue p)):P e:=if q:e.ctorIdx=27 then PySem.Stmt.Continue.elim (motive_2:=λ e=>qv e kk=true->P e) e q n h else nf ((ct q).symm.trans h)
noncomputable def GW(e:cM)(kk:Pos->Bool):Bool:=if h:e.ctorIdx=25 then PySem.Stmt.Pass.elim (motive_2:=λ D=>Bool) e h kk else false
def NV{P:cM->Prop}{kk:Pos->Bool}{e:cM}(h:GW e kk=true)(n:∀p,kk p=true->P (.Pass p)):P e:=if q:e.ctorIdx=25 then PySem.Stmt.Pass.elim (motive_2:=λ e=>GW e kk=true->P e) e q n h else nf ((ct q).symm.trans h)
noncomputable def xy(e:cM)(kk:List aQ->Pos->Bool):Bool:=if h:e.ctorIdx=4 then PySem.Stmt.Delete.elim (motive_2:=λ D=>Bool) e h kk else false
def GX{P:cM->Prop}{kk:List aQ->Pos->Bool}{e:cM}(h:xy e kk=true)(n:∀ts p,kk ts p=true->P (.Delete ts p)):P e:=if q:e.ctorIdx=4 then PySem.Stmt.Delete.elim (motive_2:=λ e=>xy e kk=true->P e) e q n h else nf ((ct q).symm.trans h)
noncomputable def xA(e:cM)(kk:aQ->Option aQ->Pos->Bool):Bool:=if h:e.ctorIdx=19 then PySem.Stmt.Assert.elim (motive_2:=λ D=>Bool) e h kk else false
def GY{P:cM->Prop}{kk:aQ->Option aQ->Pos->Bool}{e:cM}(h:xA e kk=true)(n:∀t m p,kk t m p=true->P (.Assert t m p)):P e:=if q:e.ctorIdx=19 then PySem.Stmt.Assert.elim (motive_2:=λ e=>xA e kk=true->P e) e q n h else nf ((ct q).symm.trans h)
noncomputable def GZ(e:cM)(kk:List cM->List ExceptHandler->List cM->List cM->Pos->Bool):Bool:=if h:e.ctorIdx=17 then PySem.Stmt.Try.elim (motive_2:=λ D=>Bool) e h kk else false
def G0{P:cM->Prop}{kk:List cM->List ExceptHandler->List cM->List cM->Pos->Bool}{e:cM}(h:GZ e kk=true)(n:∀a H b f p,kk a H b f p=true->P (.Try a H b f p)):P e:=if q:e.ctorIdx=17 then PySem.Stmt.Try.elim (motive_2:=λ e=>GZ e kk=true->P e) e q n h else nf ((ct q).symm.trans h)
noncomputable def T4(kd:List (Str×NameKind))(x:Str):Bool:=isVar (kd.lookup x)
noncomputable def T5(kd:List (Str×NameKind))(x:Str):Bool:=kd.lookup x==some .globalImplicit
noncomputable def NW(c:Const)(v:V):Bool:=match c with
 | .none=>xh v| .bool a=>v.bool?==some a
 | .int a=>v.int?==some a| .str a=>v.Bh==some a.cps.toList
 | .bytes a=>v.nQ==some (a.map UInt8.toNat)|_=>false
structure CC where
 G:List (Str×V)
 kd:List (Str×NameKind)
 nm:List (Str×Nat)
variable{k:CC}
noncomputable def CC.glob(k:CC)(x:Str)(i:Nat):Bool:=T5 k.kd x&&(k.G[i]?).any λ g=>g.1==x
noncomputable def CC.var(k:CC)(x:Str)(i:Nat):Bool:=T4 k.kd x&&k.nm.lookup x==some i&& !(x==("__debug__":Str))&& !(x==("__classdict__":Str))
noncomputable def CC.iV(k:CC)(x:Str)(i:Nat):Bool:=k.var x i&&(k.kd.lookup x==some .local||k.kd.lookup x==some .cell)&&k.nm.all (λ p=> !decide (p.2=i)||p.1==x)
noncomputable def xB(k:CC)(is:aj)(e:aQ):Bool:=(cw e λ x D=>l1 is λ i=>k.iV x i)||(nT e λ es D D=>l2 es λ a b=>cw a λ x D=>cw b λ y D=>l2 is λ i j=>k.iV x i&&k.iV y j)
def G1{is:aj}{e:aQ}{P:aj->aQ->Prop}(h:xB k is e=true)(f:∀x p i,k.iV x i=true->P [i] (.Name x p))(g:∀x c y u n p i j,k.iV x i=true->k.iV y j=true->P [i,j] (.Tuple [.Name x c,.Name y u] n p)):P is e:=(SO h).elim (λ h=>bU (P:=P is) h λ x p h=>wy (P:=λ is=>P is (.Name x p)) h λ i h=>f x p i h) λ h=>sD (P:=P is) h λ es n p h=>J4 (P:=λ es=>P is (.Tuple es n p)) h λ a b h=>bU (P:=λ a=>P is (.Tuple [a,b] n p)) h λ x c h=>bU (P:=λ b=>P is (.Tuple [.Name x c,b] n p)) h λ y u h=>J4 (P:=λ is=>P is (.Tuple [.Name x c,.Name y u] n p)) h λ i j h=>g x c y u n p i j (ao h).1 (ao h).2
noncomputable def CC.inner(k:CC)(sc:Scope)(own:List (Str×Nat)):CC:={k with kd:=sc.names,nm:=own++k.nm}
noncomputable def tH(e:aQ):List Str:=if h:e.ctorIdx=23 then PySem.Expr.Name.elim (motive_1:=λ D=>List Str) e h λ x D=>[x]else[]
noncomputable def NX(e:aQ):List Str:=if h:e.ctorIdx=25 then PySem.Expr.Tuple.elim (motive_1:=λ D=>List Str) e h λ es D D=>es.flatMap tH else tH e
noncomputable def cV(is:aj)(e:aQ):List (Str×Nat):=(NX e).zip is
noncomputable def jy(k:CC)(sc:Scope)(own:List (Str×Nat)):Bool:=decide (sc.kind= .function)&&decide ((sc.names.map (·.1)).Nodup)&&(k.nm.lookup (".0":Str)).isNone&&sc.names.all λ p=>match p.2 with
  | .local| .cell=>p.1==(".0":Str)||(own.lookup p.1).isSome| .free=>(own.lookup p.1).isNone&&(k.kd.lookup p.1==some .cell||k.kd.lookup p.1==some .free)
  | .globalImplicit=>true|_=>false
noncomputable def d9(e:aQ):Bool:= !gP e λ g a ks D=>cw g (λ D D=>true)&&l0 a&&l0 ks
noncomputable def isSlice(e:aQ):Bool:=decide (e.ctorIdx=26)
noncomputable def noStar(e:aQ):Bool:= !decide (e.ctorIdx=22)
noncomputable def CC.is(k:CC)(x:Str)(i:Nat)(p:V->Bool):Bool:=k.glob x i&&((k.G[i]?).any λ g=>p g.2)&& !(x==("__debug__":Str))
noncomputable def KG(t:Ty):V->Bool
 | .ty u=>decide (t=u)|_=>false
noncomputable def T6(t:Bi):V->Bool
 | .bi u=>decide (t=u)|_=>false
noncomputable def T7(c:Const):Bool:=match c with
 | .int i=>i==1|_=>false
noncomputable def NY(c:Const)(f:Str->Bool):Bool:=match c with
 | .str e=>f e|_=>false
noncomputable def one?(e:aQ):Bool:=j8 e λ o a D=>decide (o= .USub)&&ft a λ c D D=>T7 c
noncomputable def NZ(e:aQ):Bool:=ft e λ c D D=>NY c λ s=>decide (s.length<=1000)
def MI{P:aQ->Prop}{e:aQ}(h:NZ e=true)(g:∀x n p,Str.length x<=1000->P (.Constant (.str x) n p)):P e:=gu (P:=P) h λ c n p h=>by induction c with
  |str x=>exact g x n p (ae h)|_=>exact nf h
noncomputable def plainT(e:aQ):Bool:= !decide (e.ctorIdx=0)&& !decide (e.ctorIdx=5)&& !decide (e.ctorIdx=15)&& !j8 e λ o D D=>decide (o= .Not)
noncomputable def G2(m:ME):Bool:=[4,5,22,23,24].contains m.ctorIdx
noncomputable def KH(md:Nat)(m:ME)(e:aQ):Bool:= !(md==1)||G2 m||plainT e
mutual
noncomputable def b4(md:Nat)(k:CC)(m:ME)(e:aQ):Bool:=match m with
 | .lit v=>ft e λ c D D=>NW c v| .var i=>cw e λ x D=>k.var x i
 | .bT i=>cw e λ x D=>k.glob x i&& !(x==("__debug__":Str))| .bin s a b=>xw e λ l w r D=>decide (s=w)&&b4 0 k a l&&b4 0 k b r
 | .cmp s a b=>lY e λ l os n D=>l1 os λ w=>l1 n λ r=>decide (s=w)&&b4 0 k a l&&b4 0 k b r&& !behindInMarks w r| .qp a N b G c=>lY e λ l os n D=>l2 os λ T H=>l2 n λ m r=>decide (N=T)&&decide (G=H)&&b4 0 k a l&&b4 0 k b m&&b4 0 k c r&& !behindInMarks H r&& !behindInMarks T m
 | .neg a=>j8 e λ o x D=>decide (o= .USub)&&b4 0 k a x| .Qw t a b=>md==0&&Bw e λ A Q M D=>(KH 1 t A&&b4 1 k t A)&&b4 0 k a Q&&b4 0 k b M
 | .bor a b=>md==0&&oX e λ o l D=>decide (o= .Or)&&l2 l λ x y=>b4 0 k a x&&b4 0 k b y| .call f args ns kws=>gP e λ g as ks D=>(cw g λ D D=>true)&&b4 0 k f g&&fP 0 k args as&&(as.all noStar||kws.isEmpty)&&decide (ks.map (·.arg)=ns.map some)&&fP 0 k kws (ks.map (·.value))&&(ks.map (·.value)).all noStar
 | .star a=>md==0&&tG e λ x D=>b4 0 k a x| .a9 o m args=>gP e λ g as ks p=>l0 ks&&bP g λ z name h=>d9 z&&name==bf m&&decide (h.endLine=p.line)&&b4 0 k o z&&fP 0 k args as&&as.all noStar&&decide (as.length<30)
 | .nE o m args=>gP e λ g as ks p=>l0 ks&&bP g λ z name h=>d9 z&&name==bf m&&b4 0 k o z&&fP 0 k args as&& !as.all noStar| .attr o j=>bP e λ z name D=>d9 z&&decide (j<9)&&name==attrName j&&b4 0 k o z
 | .slot o j=>bP e λ z name D=>d9 z&&decide (j<3)&&name==d7 j&&b4 0 k o z| .sub o i=>eY e λ z d D=> !isSlice d&&b4 0 k o z&&b4 0 k i d
 | .slice o lo hi=>eY e λ z i D=>Bx i λ l u st D=>st.isNone&&b4 0 k o z&&N0 k lo l&&N0 k hi u| .list _ es=>GS e λ E D=>fP 0 k es E&&E.all noStar&&decide (E.length<=1000)
 | .tuple es=>nT e λ E D D=>fP 0 k es E&&E.all noStar&&decide (E.length<=1000)| .wq=>GU e λ a b D=>l0 a&&l0 b
 | .comp _ elt L it tests=>qt e λ e U sc D=>l1 U λ g=>decide (g.is_async=0)&&b4 2 k it g.iter&&jy k sc (cV L g.target)&&xB (k.inner sc (cV L g.target)) L g.target&&fP 1 (k.inner sc (cV L g.target)) tests g.ifs&&b4 0 (k.inner sc (cV L g.target)) elt e| .freeze a=>md==0&&b4 0 k a e
 | .zu a=>md==1&&j8 e λ o x D=>decide (o= .Not)&&(KH 1 a x&&b4 1 k a x)| .xr es=>md==1&&oX e λ o xs D=>decide (o= .And)&&fP 1 k es xs
 | .Qx es=>md==1&&oX e λ o xs D=>decide (o= .Or)&&fP 1 k es xs| .zip i a b=>md==2&&gP e λ g as ks D=>l0 ks&&cw g λ x D=>l2 as λ Q M=>k.is x i (KG .zip)&&b4 0 k a Q&&b4 0 k b M&&noStar Q&&noStar M
 | .range i es=>md==2&&gP e λ g as ks D=>l0 ks&&cw g λ x D=>k.is x i (KG .range)&&fP 0 k es as&&as.all noStar| .values o=>md==2&&gP e λ g as ks p=>l0 as&&l0 ks&&bP g λ z name h=>d9 z&&name==("values":Str)&&decide (h.endLine=p.line)&&b4 0 k o z
 | .dZ i o=>gP e λ g as ks D=>l0 ks&&cw g λ x D=>l2 as λ a b=>bP a λ z name D=>ft b λ c D D=>NY c λ e=>k.is x i (T6 .iter)&&d9 z&&name==bf 15&&e.cps.toList==[]&&b4 0 k o z| .mulM a b=>xw e λ l w r D=>decide (w= .Mult)&&b4 0 k a l&&b4 0 k b r
 | .GF a=>kR e λ vs D=>l1 vs λ v=>b4 0 k a v| .Ey elt L it=>tF e λ e U sc D=>l1 U λ g=>decide (g.is_async=0)&&l0 g.ifs&&(b4 2 k it g.iter&&jy k sc (cV L g.target)&&xB (k.inner sc (cV L g.target)) L g.target&&b4 0 (k.inner sc (cV L g.target)) elt e)
 | .wt q I args=>gP e λ g as ks D=>l0 ks&&cw g λ x D=>l1 as λ a=>k.is x q (KG .list)&&noStar a&&gP a λ g as ks D=>l0 ks&&cw g λ x D=>k.is x I (KG .range)&&fP 0 k args as| .tA i=>kR e λ vs D=>l3 vs λ a v b=>NZ a&&NU v (k.var · i)&&NZ b
 | .tv i o=>bP e λ c name D=>gP c λ g as ks D=>l0 ks&&cw g λ x D=>l1 as λ z=>k.is x i (T6 .iter)&&name==("__next__":Str)&&b4 0 k o z&&noStar z
noncomputable def fP(md:Nat)(k:CC):List ME->List aQ->Bool
 |[],[]=>true|m::es,x::xs=>(m.isStar||(noStar x&&KH md m x))&&b4 md k m x&&fP md k es xs
 |_,_=>false
noncomputable def N0(k:CC):Option ME->Option aQ->Bool
 |none,none=>true|some e,some x=>b4 0 k e x
 |_,_=>false
end
noncomputable def N1(k:CC)(m:ME)(e:aQ):Bool:=KH 1 m e&&b4 1 k m e
noncomputable def N2(k:CC)(g:vk)(e:aQ):Bool:=match g with
 | .var i=>cw e λ x D=>k.iV x i| .attr o j=>bP e λ z name D=>decide (j<9)&&name==attrName j&&b4 0 k o z
 | .slot o j=>bP e λ z name D=>decide (j<3)&&name==d7 j&&b4 0 k o z| .sub o i=>eY e λ z A D=> !isSlice A&&b4 0 k o z&&b4 0 k i A
noncomputable def l8(k:CC):List vk->List aQ->Bool
 |[],[]=>true|t::ts,x::xs=>noStar x&&N2 k t x&&l8 k ts xs
 |_,_=>false
noncomputable def qw:aQ->Bool
 | .ListComp .. | .SetComp .. | .DictComp .. =>true|_=>false
noncomputable def C7(e:aQ):Bool:= !nT e λ vs D D=>vs.all (constantsAlone 8)
noncomputable def KJ(m:ME):Bool:=decide (m.ctorIdx=20)
def QF{P:ME->Prop}{m:ME}(h:KJ m=true)(f:∀mt elt u it ts,P (.comp mt elt u it ts)):P m:=ME.comp.elim m (ae h) f
noncomputable def oY(k:CC):aj->List aQ->Bool:=λ is=>match is with
 |[]=>l0|i::is=>λ es=>match es with
  |[]=>false|e::es=>(cw e λ x D=>k.iV x i)&&oY k is es
noncomputable def MJ(s:cM):Bool:=BB s λ D=>true
noncomputable def QG(c:Const):Bool:=match c with
 | .none=>true|_=>false
noncomputable def T8(h:ExceptHandler)(f:aQ->cM->cM->Bool):Bool:=match h with
 | .ExceptHandler t n b _=>match t with
  |some z=>n.isNone&&l2 b (f z)|none=>false
def T9{P:ExceptHandler->Prop}{f:aQ->cM->cM->Bool}{e:ExceptHandler}(h:T8 e f=true)(g:∀z c d p,f z c d=true->P (.ExceptHandler (some z) none [c,d] p)):P e:=by obtain⟨t,n,b,p⟩:=e;induction t with
 |none=>exact nf h|some z=>have h:=ao h;exact qY.mp h.1▸J4 (P:=λ b=>P (.ExceptHandler (some z) none b p)) h.2 λ c d h=>g z c d p h
noncomputable def hX(h:ExceptHandler)(f:aQ->cM->Bool):Bool:=match h with
 | .ExceptHandler t n b _=>match t with
  |some z=>n.isNone&&l1 b (f z)|none=>false
def XQ{P:ExceptHandler->Prop}{f:aQ->cM->Bool}{e:ExceptHandler}(h:hX e f=true)(g:∀z c p,f z c=true->P (.ExceptHandler (some z) none [c] p)):P e:=by obtain⟨t,n,b,p⟩:=e;induction t with
 |none=>exact nf h|some z=>have h:=ao h;exact qY.mp h.1▸wy (P:=λ b=>P (.ExceptHandler (some z) none b p)) h.2 λ c h=>g z c p h
noncomputable def Wd(C:Nat)(v:V):Bool:=match v with
 | .glob a=>decide (C=a)|_=>false
noncomputable def Ua:Nat->V->Bool
 |0=>KG .iO|C+1=>Wd (C+1)
noncomputable def G3(k:CC)(h:Option (Nat×V))(s:cM):Bool:=match h with
 |none=>GW s λ D=>true|some x=>kS s λ ts v D=>l1 ts λ t=>(cw t λ y D=>k.iV y x.1)&&ft v λ c D D=>NW c x.2
noncomputable def KL(k:CC)(v:Nat)(e:aQ):Bool:=gP e λ f as ks u=>l0 as&&l0 ks&&bP f λ o n h=>n==bf 1&&decide (h.endLine=u.line)&&cw o λ y D=>k.var y v
noncomputable def N3(k:CC)(nd st:Nat)(c:cM):Bool:=xy c λ ts D=>l1 ts λ t=>eY t λ o i D=>(cw o λ u D=>k.var u nd)&&KL k st i
noncomputable def QH(k:CC)(i it:Nat)(s:cM):Bool:=kS s λ ts v D=>l1 ts λ t=>cw t λ x D=>k.iV x i&&gP v λ f as ks D=>l0 as&&l0 ks&&eY f λ o e D=>(cw o λ y D=>k.var y it)&&one? e
mutual
noncomputable def KN(k:CC)(m:MS)(s:cM):Bool:=match m with
 | .assign ts e=>kS s λ U v D=>l8 k ts U&&b4 0 k e v&&(!qw v||KJ e)| .unpack ts e=>kS s λ G v D=>l1 G λ t=>nT t λ U D D=>oY k ts U&&b4 0 k e v&&decide ts.Nodup&&C7 v
 | .kO ts e=>kS s λ G v D=>l1 G λ t=>nT t λ U D D=>l8 k ts U&&b4 0 k e v&&cw v λ D D=>true| .aug i M e=>iU s λ t w v D=>cw t λ x D=>k.iV x i&&decide (M=w)&&b4 0 k e v
 | .ju o j M e=>iU s λ t w v D=>bP t λ E name D=>decide (j<9)&&name==attrName j&&b4 0 k o E&&decide (M=w)&&b4 0 k e v| .jv o j M e=>iU s λ t w v D=>bP t λ E name D=>decide (j<3)&&name==d7 j&&b4 0 k o E&&decide (M=w)&&b4 0 k e v
 | .dC t a b=>SV s λ y Q N D=>(KH 1 t y&&b4 1 k t y)&&gd k a Q&&gd k b N| .wu i e a b=>SV s λ y Q N D=>lY y λ l os n D=>l1 os λ p=>l1 n λ q=>nU l λ g v D=>cw g λ x D=>ft q λ c D D=>decide (p= .Is)&&QG c&&k.iV x i&&b4 0 k e v&&gd k a Q&&gd k b N
 | .gq t a b=>By s λ y Q N D=>(KH 1 t y&&b4 1 k t y)&&gd k a Q&&gd k b N| .ir u it a=>KC s λ y A Q b D=>l0 b&&xB k u y&&b4 2 k it A&&gd k a Q
 | .oW i it a=>KC s λ y A Q b D=>l0 b&&cw y λ x D=>k.iV x i&&b4 0 k it A&&gd k a Q| .ret e=>xx s λ v D=>v.any (b4 0 k e)
 | .expr e=>wz s λ v D=>b4 0 k e v&& !qw v| .brk=>MJ s
 | .cont=>qv s λ D=>true| .jw t=>xA s λ y D D=>(KH 1 t y&&b4 1 k t y)
 | .Ez a=>GZ s λ Q H b f D=> !H.isEmpty&&l0 b&&l0 f&&gd k a Q| .lW g C args=>Bz s λ e x D=>x.isNone&&e.any λ e=>gP e λ f as ks D=>l0 ks&&cw f λ x D=>k.glob x g&& !(x==("__debug__":Str))&&fP 0 k args as&&as.all noStar
 | .lp o m args=>wz s λ e D=>gP e λ g as ks p=>l0 ks&&bP g λ E name I=>d9 E&&name==bf m&&decide (I.endLine=p.line)&&b4 0 k o E&&fP 0 k args as&&as.all noStar&&decide (as.length<30)| .EA a g C h=>GZ s λ Q H b f D=>l0 b&&l0 f&&gd k a Q&&l1 H λ L=>hX L λ z b=>(cw z λ z D=>k.is z g (Ua C))&&G3 k h b
 | .dead=>true| .mI i st it nd g=>GZ s λ body H T fin D=>l0 T&&l0 fin&&l2 body (λ a b=>MJ b&&QH k i it a)&&l1 H λ h=>T8 h λ z c d=>(cw z λ z D=>k.is z g (KG .lQ))&&(N3 k nd st c&&wz d λ e D=>KL k it e)
noncomputable def gd(k:CC):List MS->List cM->Bool
 |[],[]=>true|s::a,t::ts=>KN k s t&&gd k a ts
 |_,_=>false
end
noncomputable def C8:aI:=[.type "ValueError",.type "Exception",.type "BaseException",.type "object"]
inductive G4(K:Frag)(C:Addr):Prop
 |mk (nm q:Str) (N:Addr) (bs:aI) (hdct:Bool) (sn:List Str) (sub:aI) (ab:Bool) (col:Option Bool) (dd:Option Addr) (k0 k1 k2 k3 k5:Option Value) (hC:K.lookup C=some (excClassObj nm q C N bs C8 hdct sn sub ab col dd k0 k1 k2 k3 k5 "ValueError.__new__")) (hN:nsOkIn K N=true) (hi:nsIn K N "__init__"=some none):G4 K C
structure cB(J:Cx)(pg:Pg):Prop where
 exc:∀C,pg.Kr.contains C=true->G4 J.K C
 glob:∀(k:Nat) x v,pg.G[k]? =some (x,v)->∀c s,Rel J c s->∀(A:Around)(E:dM)(Q:dM),(∀y,aE c s.heap v y->Q y s)->∀env:Env,env.globals=mainGlobals->env.builtins=builtinsNs->wpAny J.ay A (loadGlobal env x) Q E s
 inst:∀C,pg.insts.contains C=true->ti J.K C
 node:xq J.K pg.tB
 a9:∀C m fa,pg.a9 C m=some fa->pg.insts.contains C=true->findIn J.K (.ref C) (bf m)=some (some (.ref fa))/\typeIn J.K (.ref fa)=some (.type "function")/\(∀k,k<9->attrName k≠bf m)/\fnIn J.K fa=true/\specialIn J.K (.ref fa) "__get__"=some (some (.builtin "function.__get__"))/\takesIn J.K (.ref fa)=some false/\copiedNames.contains (bf m)=false
structure Ub(k:CC)(env:Env):Prop where
 v:∀x,isVar (k.kd.lookup x)=true->isVar (env.kindOf x)=true
 g:∀x,k.kd.lookup x=some .globalImplicit->env.kindOf x=some .globalImplicit
 l:∀x,k.kd.lookup x=some .local->env.kindOf x=some .local
 c:∀x,k.kd.lookup x=some .cell->env.kindOf x=some .cell
 f:∀x,k.kd.lookup x=some .free->env.kindOf x=some .free\/env.kindOf x=some .cell
structure At(J:Cx)(pg:Pg)(d:Nat)(k:CC)(B:aw)(Y:Mem)(A:Around)(c:Vw)(s:Shared)(env:Env):Prop where
 rm:jK d A
 sg:c.Y=Y
 rl:Rel J c s
 en:wh J c env s.heap
 kd:Ub k env
 fv:CV c env k.nm B s.heap
 gg:k.G=pg.G
 sk:xe A c
def At.step{c G:Vw}{s s':Shared}(T:At J pg d k B Y A c s env)(S:Step J c s G s' cN):At J pg d k B G.Y A G s' env:=⟨T.rm,rfl,S.rel,T.en.step T.rl S λ D D h=>h,T.kd,T.fv.step T.en T.rl S ⟨λ h=>h,λ D D D h=>h⟩,T.gg,T.sk.step S⟩
def aH(J:Cx)(pg:Pg)(d:Nat)(m:ME):Prop:=∀(k:CC)(e:aQ)(Q:fA)(B:aw)(Y:Mem)(A:Around)(E:dM)(c:Vw)(s:Shared)(env:Env),b4 0 k m e=true->wE J pg d m Q B Y->At J pg d k B Y A c s env->bA J A E c s (eval e env) Q
def eZ(J:Cx)(pg:Pg)(d:Nat)(m:ME):Prop:=∀(k:CC)(e:aQ)(Q:Bool->Mem->Prop)(B:aw)(Y:Mem)(A:Around)(E:dM)(c:Vw)(s:Shared)(env:Env),N1 k m e=true->wE J pg d m (λ v Y=>opt (cQ Y v) λ b=>Q b Y) B Y->At J pg d k B Y A c s env->zb J A E c s (PySem.isTrue e env (eval e env)) Q
def dt{α:Type}{x:Option α}{Q:α->Prop}{P:Prop}(h:opt x Q)(g:∀a,x=some a->Q a->P):P:=by cases x with|none=>exact h.elim|some a=>exact g a rfl h
def mc{v:V}{Q:V->Prop}(h:got v Q):v≠.aC/\Q v:=by induction v using vC<;>first|exact⟨vn,h⟩|exact h.elim
def ED{v:V}(h:xh v=true):v= .none:=by induction v using vC<;>first|rfl|exact nf h
def G5(x:List UInt8):bG (x.map UInt8.toNat)=x.toArray:=by
 delta bG;rw[fo];have:UInt8.ofNat∘UInt8.toNat=id:=by funext z;simp
 rw[this,List.map_id]
def ri{cst:Const}{v:V}(R:Rel J c s)(h:NW cst v=true)(w:Q v c.Y):bA J A E c s (constValue env cst) Q:=by induction cst with
 |none=>rw[ED h]at w;exact bA.val (v:= .none) R rfl w|bool x=>rw[V.tc (bc h)]at w;exact bA.val (v:= .bool x) R rfl w
 |int x=>rw[V.gG (bc h)]at w;exact wpAny_mkInt ⟨c,.int x,Step.toks R _,⟨s.toks,rfl⟩,w⟩|str x=>rw[V.oO (bc h)]at w;exact wpAny_mkText ⟨c,.str x.cps.toList,Step.toks R _,⟨s.toks,rfl⟩,w⟩
 |bytes x=>rw[V.iC (bc h)]at w;refine ag (wpAny_fresh (ax ⟨c,.bytes (x.map UInt8.toNat),Step.toks R _,⟨λ y T=> ?_,s.toks,aF (Value.bytes · _) ?_⟩,w⟩));obtain⟨z,D,rfl⟩:=bV.mp T;exact z.toNat_lt;exact(G5 x).symm
 |_=>exact nf h
def QJ(v:V):aH J pg d (.lit v):=by intro k e Q B Y A E c s env h w T;refine gu (P:=λ e=>bA J A E c s (eval e env) Q) h λ cst n p h=> ?_;rw[<-T.sg]at w;exact ri T.rl h w
def CC.tI{x:Str}{i:Nat}(h:k.var x i=true):isVar (k.kd.lookup x)=true/\k.nm.lookup x=some i/\(x==("__debug__":Str))=false/\(x==("__classdict__":Str))=false:=have M:=ao h
 have N:=ao M.1;have j:=ao N.1
 ⟨j.1,bc j.2,jJ N.2,jJ M.2⟩
def tJ{x:Str}{i:Nat}{v:V}{Q:dM}(T:At J pg d k B Y A c s env)(h:k.var x i=true)(n:B.getD i .aC=v)(a:v≠.aC)(q:∀y,aE c s.heap v y->Q y s):wpAny J.ay A (loadName env x) Q E s:=by
 obtain⟨M,N,j,C⟩:=CC.tI h;have hi:B[i]? =some v:=by rw[jX]at n;cases e:B[i]?with
  |none=>rw[e]at n;exact absurd n.symm a|some w=>rw[e]at n;exact aF some n
 rcases T.fv x i v N (T.kd.v x M) hi with z|⟨u,V,r⟩;exact absurd z a;exact lU T.en.kind V C (q u r)
def QK(i:Nat):aH J pg d (.var i):=by intro k e Q B Y A E c s env h w T;refine bU (P:=λ e=>bA J A E c s (eval e env) Q) h λ x p h=> ?_;have w:=mc (v:=B.getD i .aC) w;rw[<-T.sg]at w;exact wpAny_Name (tJ T h rfl w.1 λ y r=>⟨c,_,.refl T.rl,r,w.2⟩) (CC.tI h).2.2.1
def wA(M:cB J pg){x:Str}{i:Nat}{Q:dM}(T:At J pg d k B Y A c s env)(h:k.glob x i=true){g:Str×V}(U:pg.G[i]? =some g)(q:∀y,aE c s.heap g.2 y->Q y s):wpAny J.ay A (loadName env x) Q E s:=by have h:=ao h;have N:=h.2;rw[T.gg,U]at N;exact loadName_read T.en.kind (T.kd.g x (bc h.1))▸M.glob i x g.2 (by exact U.symm▸(show g.1=x from bc N)▸rfl) c s T.rl A E Q q env T.en.glob T.en.Ny
def QL(U:cB J pg)(i:Nat):aH J pg d (.bT i):=by intro k e Q B Y A E c s env h w T;refine bU (P:=λ e=>bA J A E c s (eval e env) Q) h λ x p h=> ?_;refine dt w λ g M w=> ?_;rw[<-T.sg]at w;exact wpAny_Name (wA U T (ao h).1 M λ y r=>⟨c,g.2,.refl T.rl,r,w⟩) (jJ (ao h).2)
def two{a b:ME}{l r:aQ}(C:aH J pg d a)(U:aH J pg d b)(T:At J pg d k B Y A c s env)(M:b4 0 k a l=true)(N:b4 0 k b r=true){P:V->fA}(w:wE J pg d a (λ va Y=>wE J pg d b (λ vb Y=>P va vb Y) B Y) B Y){Q:Value->dM}(q:∀x y h c₂ va vb,Step J c s c₂ h cN->aE c₂ h.heap va x->aE c₂ h.heap vb y->P va vb c₂.Y->Q x y h):wpAny J.ay A (eval l env) (λ x f=>wpAny J.ay A (eval r env) (λ y h=>Q x y h) E f) E s:=(C k l _ B Y A E c s env M w T).go λ x f c₁ va t G o=>(U k r _ B c₁.Y A E c₁ f env N o (T.step t)).go λ y h c₂ vb e L I=>q x y h c₂ va vb (t.trans e) (G.carry e.carry) L I
def QM(U:Operator){a b:ME}(C:aH J pg d a)(N:aH J pg d b):aH J pg d (.bin U a b):=by intro k e Q B Y A E c s env h w T;refine C5 (P:=λ e=>bA J A E c s (eval e env) Q) h λ l g r p h=> ?_;have h:=ao h;have M:=ao h.1;exact(show U=g from ae M.1)▸wpAny_BinOp (two C N T M.2 h.2 w λ x y I c₂ va vb S o i G=>dt G λ v n q=>(Eu S.rel o i n q).after S)
def At.units(T:At J pg d k B Y A c s env):A.units+10<cLine:=ai (Bc (bt (av _ _) T.rm.2.2) 10) dD
def C9{P:aQ->Prop}{md:Nat}{c:CmpOp}{a b:ME}{e:aQ}(h:b4 md k (.cmp c a b) e=true)(f:∀l r p,b4 0 k a l=true->b4 0 k b r=true->behindInMarks c r=false->P (.Compare l [c] [r] p)):P e:=qr h λ l os E p h=>wy (P:=λ os=>P (.Compare l os E p)) h λ o h=>wy (P:=λ E=>P (.Compare l [o] E p)) h λ r h=>by have h:=ao h;have M:=ao h.1;have N:=ao M.1;have e:=ae N.1;subst e;exact f l r p N.2 M.2 (jJ h.2)
def MK(ok:bp J)(U:CmpOp){a b:ME}(C:aH J pg d a)(M:aH J pg d b):aH J pg d (.cmp U a b):=λ k e Q B Y A E c s env h w T=>C9 (P:=λ e=>bA J A E c s (eval e env) Q) h λ l r p N G hm=>wpAny_Compare1 (two C M T N G w λ x y u c₂ va vb S o i I=>dt I λ v n q=>(mH S.rel ok.sys T.units o i n q).after S) hm
def zx{P:aQ->Prop}{md:Nat}{x c:CmpOp}{a b e:ME}{ex:aQ}(h:b4 md k (.qp a x b c e) ex=true)(f:∀l m r p,b4 0 k a l=true->b4 0 k b m=true->b4 0 k e r=true->behindInMarks c r=false->P (.Compare l [x,c] [m,r] p)):P ex:=qr h λ l os E p h=>J4 (P:=λ os=>P (.Compare l os E p)) h λ y H h=>J4 (P:=λ E=>P (.Compare l [y,H] E p)) h λ m r h=>by have h:=ao (ao h).1;have M:=ao h.1;have N:=ao M.1;have j:=ao N.1;have C:=ao j.1;refine(show x=y from ae C.1)▸(show c=H from ae C.2)▸?_;have e:=ae C.2;subst e;exact f l m r p j.2 N.2 M.2 (jJ h.2)
def vp{l:aQ}{k:CmpOp}{m:aQ}{s:CmpOp}{r:aQ}{p:Pos}(h:behindInMarks s r=false):eval (.Compare l [k,s] [m,r] p) env=(do
  let a<-eval l env;let b<-holding [a] (eval m env);standAt p;let c<-holding [a,b] (compareOp k a b);release [a,b] [c]
  if<-holding [c,b] (truthy c)then(do let e<-holding [b] (eval r env);standAt p;operate [b,e] (compareOp s b e))else pure c):=by
 refine(markedBehindIn_of_false (t:=eval r env) h)▸?_;rfl
def G6(ok:bp J){a b e:ME}(L H:CmpOp)(C:aH J pg d a)(g:aH J pg d b)(he:aH J pg d e):aH J pg d (.qp a L b H e):=by intro k ex Q B Y A E c s env h w T;refine zx (P:=λ e=>bA J A E c s (eval e env) Q) h λ l m r p n t j hm=> ?_;refine(vp hm).symm▸?_;refine ag (aW (two C g T n t w (Q:=λ x y M=>_) λ x y M c₂ va vb S r1 i U=> ?_) (λ x aq hx=>ag (bB (aW hx (λ y M hy=>hy) λ D D z=>z))) λ D D z=>z);refine dt U λ q hq U=>ag (cP (ag (bB ((mH (Q:=λ v Y=>v= .bool q/\Y=c₂.Y) S.rel ok.sys T.units r1 i hq ⟨rfl,rfl⟩).go λ z bw G v f N I=> ?_))));refine(show z= .bool q by rw[I.1]at N;exact N).symm▸?_;rw[<-I.2]at U;refine ag (wpAny_release (ag (bB (wpAny_truthy_bool ?_))));induction q with
 |false=>exact ax ⟨G,.bool false,S.trans f,rfl,U⟩|true=>exact ag (bB ((he k r _ B G.Y A E G bw env j U ((T.step S).step f)).go λ u lD vq ve o EE EF=>dt EF λ v hv q=>
   ag (cP (wpAny_operateT ((mH o.rel ok.sys T.units ((i.carry f.carry).carry o.carry) EE hv q).after ((S.trans f).trans o))))))
def QN{a:ME}(C:aH J pg d a):aH J pg d (.neg a):=by intro k e Q B Y A E c s env h w T;refine qs (P:=λ e=>bA J A E c s (eval e env) Q) h λ b x p h=> ?_;have h:=ao h;refine(ae h.1).symm▸?_;refine ag ((C k x _ B Y A E c s env h.2 w T).go λ y f c₁ v S r q=>ag (cP (bB ?_)));refine TU (P:=λ v=>aE c₁ f.heap v y->_) q (λ i q r=> ?_) r;obtain⟨t,rfl⟩:=r;exact neg_int ⟨c₁,.int (-i),S.trans (Step.toks S.rel _),⟨_,rfl⟩,q⟩
def QO{o i:ME}(m:aH J pg d o)(hi:aH J pg d i):aH J pg d (.sub o i):=by intro k e Q B Y A E c s env h w T;refine fu (P:=λ e=>bA J A E c s (eval e env) Q) h λ f t p h=> ?_;have h:=ao h;refine oU (P':=λ D D D=>True) (m k f _ B Y A E c s env (ao h.1).2 w T) λ x v c₁ n S r a=> ?_;refine(hi k t _ B c₁.Y A E c₁ n env h.2 a (T.step S)).go λ y N c₂ u b L U=>dt U λ z M q=> ?_;have g:=Ep (A:=A) (E:=E) (Q:=Q) b.rel (r.carry b.carry) L M q;exact⟨c₂,b,g.1,g.2⟩
def oZ{o:aQ}{attr:Str}{whole:Sem Value}(h:d9 o=true):attributeBase o attr env whole=whole:=by induction o using wa with
 |Call g as ks p=>induction g using wa with
  |Name x p=>induction as with
   |nil=>induction ks with
    |nil=>exact nf h|cons=>rfl
   |cons=>rfl
  |_=>rfl
 |_=>rfl
def o5{o:aQ}{attr:Str}{p:Pos}{Q P:fA}(H:d9 o=true)(h:bA J A E c s (eval o env) P)(k:∀x v c₁ f,Step J c s c₁ f cN->aE c₁ f.heap v x->P v c₁.Y->bA J A E c₁ f (getAttr x attr true) Q):bA J A E c s (eval (.Attribute o attr p) env) Q:=by rw[arm_eval_Attribute,oZ H];exact ag (h.go λ x f c₁ v S r q=>ag (cP (ag (bB (aW ((k x v c₁ f S r q).after S) (λ y U T=>ag (wpAny_letTemporaryGo (ax T))) λ D D z=>z)))))
def N4(ok:bp J)(U:cB J pg){o:ME}(j:Nat)(m:aH J pg d o):aH J pg d (.attr o j):=by intro k e Q B Y A E c s env h w T;refine bI (P:=λ e=>bA J A E c s (eval e env) Q) h λ z n p h=> ?_;have h:=ao h;have l:=ao h.1;have N:=ao l.1;refine(bc l.2).symm▸?_;refine o5 N.1 (m k z _ B Y A E c s env h.2 w T) λ x v c₁ y S r q=>rQ (P:=λ v=>aE c₁ y.heap v x->_) q (λ i q r=>instP q λ C as e q=>dt q.2 λ u a b=> ?_) r;exact r.2▸tm S.rel ok r.1 e (U.inst C q.1) (ae N.2) a (mc b).2
def N5(ok:bp J)(U:cB J pg){o:ME}(j:Nat)(m:aH J pg d o):aH J pg d (.slot o j):=by intro k e Q B Y A E c s env h w T;refine bI (P:=λ e=>bA J A E c s (eval e env) Q) h λ z n p h=> ?_;have h:=ao h;have l:=ao h.1;have N:=ao l.1;refine(bc l.2).symm▸?_;refine o5 N.1 (m k z _ B Y A E c s env h.2 w T) λ x v c₁ y S r q=>rQ (P:=λ v=>aE c₁ y.heap v x->_) q (λ i q r=>C0 q λ C as e q=>dt q.2 λ u a b=> ?_) r;exact r.2▸get_node S.rel ok r.1 (by exact e.symm▸q.1.symm▸rfl) U.node (ae N.2) a (mc b).1 (mc b).2
def KO:aH J pg d .wq:=by
 intro k e Q B Y A E c s env h w T;refine NT (P:=λ e=>bA J A E c s (eval e env) Q) h λ a b p h=> ?_;refine(lq (ao h).1).symm▸(lq (ao h).2).symm▸?_;rw[<-T.sg]at w;have S:=T.rl.new (s':={s with heap:=s.heap.push {cls:= .type "dict",data:= .dict #[]}}) s.heap.objs.size [s.heap.objs.size] [] (.dict [] 0) (λ D D e=>bN _ e)
  (by refine(?_:_<=(s.heap.push _).objs.size);rw[b9];exact av _ _) rfl rfl (λ b U=>by replace U:=bX.mp U;subst U;exact⟨ah _,by refine(?_:_<(s.heap.push _).objs.size);rw[b9];exact bz _⟩) (λ b U=>by exact absurd U ck)
  λ N=>⟨rfl,[],⟨_,#[],bS _ rfl,⟨rfl,rfl,rfl⟩,rfl,(λ e he=>by simp at he),.nil,List.nodup_nil⟩,trivial⟩
 show wpAny _ _ (standAt p>>=λ D=>newDict) _ _ _;exact ag (cP (j3 ⟨_,.ref c.Y.n,S,⟨bz _,aF Value.ref (ar rfl).symm⟩,w⟩ (cI _)))
def zy(R:Rel J c s){i:Nat}{vs:aw}(hi:i<c.Y.n)(e:c.Y.f i= .list vs):Step J c s (c.set i .dead) s cN/\aE (c.set i .dead) s.heap (.list vs) (.ref (c.ρ i)):=by
 have a:c.live i:=⟨hi,by refine e.symm▸?_;exact od⟩;have S:=R.upd (s':=s) a .dead (λ D D e D=>e) (ah _) rfl rfl λ D=>trivial;have A:=R.obj i hi;rw[e]at A;obtain⟨hf,f,h,E⟩:=A;refine⟨S,_,f,rfl,h,?_,E.carry S.carry⟩;rintro(⟨j,t,U⟩|T|M);have ne:j≠i:=by rintro rfl;apply t.2;refine(?_:(if j=j then O.dead else _)=_);exact(ar rfl).symm▸rfl
 exact R.apart i j a (Vw.oL a t) (Ne.symm ne) (c.ρ i) (by refine hf.symm▸?_;exact gM) U;exact(R.d5 _ T).2.2.1 ⟨i,a,by refine hf.symm▸?_;exact gM⟩;exact(R.d6 _ M).2.2.1 ⟨i,a,by refine hf.symm▸?_;exact gM⟩
def G7{a:ME}(C:aH J pg d a):aH J pg d (.freeze a):=λ k e Q B Y A E c s env h w T=>(C k e _ B Y A E c s env h w T).go λ x y c₁ v S r q=>rQ (P:=λ v=>aE c₁ y.heap v x->_) q (λ i q r=>dt q λ vs n q=>by
  have F:=zy S.rel r.1 (O.qk n)
  exact r.2▸⟨_,_,S.trans F.1,F.2,q⟩) r
def tK{α:Type}{l:List α}{i:Nat}(h:i<l.length):(l[i]::l.eraseIdx i).Perm l:=by induction l generalizing i with
 |nil=>exact absurd h (jW _)|cons a l z=>induction i using nC with
  |zero=>exact .refl _|succ i=>exact(List.Perm.swap _ _ _).trans (.cons _ (z (Nat.lt_of_succ_lt_succ h)))
def EG{α:Type}(next:Nat->Nat)(n:Nat):∀(k:Nat)(left:List α)(out:Array α),left.length=n->((pickOrder.go next n k left out).toList).Perm (out.toList++left):=by induction n with
 |zero=>intro k left out h;rw[vY.mp h,dw];exact .refl _|succ n z=>
  intro k left out h;have I:next k%left.length<left.length:=Nat.mod_lt _ (h▸ji n)
  have e:pickOrder.go next (n+1) k left out=pickOrder.go next n (k+1) (left.eraseIdx (next k%left.length)) (out.push (left[next k%left.length])):=by refine(?_:(match left[next k%left.length]?with|some x=>_|none=>_)=_);rw[gN I]
  rw[e];refine(z (k+1) _ _ (by rw[List.length_eraseIdx_of_lt I,h];rfl)).trans ?_;rw[Array.toList_push,hZ];exact(List.perm_append_left_iff _).mpr (tK I)
def tM{α:Type}(next:Nat->Nat)(xs:Array α):((pickOrder next xs).toList).Perm xs.toList:=EG next xs.size 0 xs.toList #[] rfl
section
variable{prog:Program}{w:World}
def xC{src:Source}{n:Nat}{Q:Nat->Shared->Prop}(T:0<n)(h:∀i j,i<n->Q i {s with drawn:=j}):wpAny (model prog w) A (choose src n) Q E s:=λ a p D=>(Sem.wp_choose (model prog w) a _ _ p s src n .pure).mpr ⟨Nat.ne_of_gt T,h _ _ (Nat.mod_lt _ T)⟩
def EH{α:Type}(n:Nat):∀(xs:List α)(s:Shared)(Q:List α->Shared->Prop),xs.length=n->(∀l j,l.Perm xs->Q l {s with drawn:=j})->wpAny (model prog w) A (drawOrder n xs) Q E s:=by induction n with
 |zero=>intro xs s Q h q;obtain rfl:=vY.mp h;exact ax (q [] s.drawn (.refl _))
 |succ n z=>intro xs s Q h q;induction xs using lC with
  |nil=>exact Nat.noConfusion h|cons x xs=>show wpAny _ _ (choose .order (x::xs).length>>=λ i=>match(x::xs)[i]?with|some y=>drawOrder n ((x::xs).eraseIdx i)>>=λ r=>pure (y::r)|none=>unsupported "internal:drawOrder") _ _ _;refine ag (xC (ji _) λ i j hi=> ?_);exact gN hi▸ag (z _ _ _ (by rw[List.length_eraseIdx_of_lt hi,h];rfl) λ l f p=>ax (q _ f ((List.Perm.cons _ p).trans (tK hi))))
inductive nF(w:World)(a:Addr)(ep:Nat)(es:Array (Int×Value))(t:SetTable)(T:Addr)(h:Heap)(L:List (Int×Value)):Value->Nat->Prop
 |text (hb:w.params.followText "set-order"=true) (hL:L=(pickOrder (w.params.setOrder a ep) es).toList) (sl i:Nat):nF w a ep es t T h L (rawInt sl) i
 |slots (hb:w.params.followText "set-order"=false) (hd:(!t.plain&&decide (es.size>1))=false) (hL:L=es.toList) (sl i:Nat) (hs:Nv t.place.toList sl i):nF w a ep es t T h L (rawInt sl) i
 |drawn (l:aj) (n:Nat) (hT:h.get? T=some {cls:= .type "tuple",data:= .seq (l.map λ(i:Nat)=>rawInt i).toArray n}) (hL:l.map (es[·]?)=L.map some) (i:Nat):nF w a ep es t T h L (.ref T) i
def iu:Slot "set_iterator" "__next__" "set_iterator.__next__":=kN "set_iterator" "__next__"
def vr:entryFor table "set_iterator.__next__"=some Builtin.«set_iterator.__next__»:=entryFor_of_tree (by kernel_rfl)
def o6:Slot "set_iterator" "__iter__" "set_iterator.__iter__":=kN "set_iterator" "__iter__"
def tN:entryFor table "set.__iter__"=some Builtin.«frozenset.__iter__»:=entryFor_alias (id':="frozenset.__iter__") (by kernel_rfl) rfl (by decide+kernel) (by kernel_rfl)
structure G8(w:World)(a:Addr)(ep:Nat)(es:Array (Int×Value))(t:SetTable)(L:List (Int×Value))(T I:Addr)(i:Nat)(h:Heap):Prop where
 set:h.get? a=some (qh es ep t)
 it:∃v,h.get? I=some {cls:= .type "set_iterator",data:= .fields #[v,rawInt i,.ref a,rawInt es.size,rawInt ep]}/\nF w a ep es t T h L v i
def tQ{a:Addr}{xs:List Int}{es:Array (Int×Value)}{ep:Nat}{t:SetTable}{Q:dM}(e:s.heap.get? a=some (qh es ep t))(g:ib prog w es t xs)(q:∀L T I h' v,L.Perm es.toList->(∀b o,s.heap.get? b=some o->h'.get? b=some o)->s.heap.objs.size<=I->T<I->(T=a\/s.heap.objs.size<=T)->G8 w a ep es t L T I 0 h'->Q (.ref I) {s with heap:=h',drawn:=v}):wpAny (model prog w) A (pyIter (.ref a)) Q E s:=by
 have G:s.TypeIs (.ref a) "set":=⟨_,e,rfl⟩;refine wpAny_pyIter_slot G F.slot_set_iter (lG F.slot_set_iter G tN ?_ (F.args_set_iter_1 _));show wpAny _ _ ((setEntries a>>=λ z=>pure z.size)>>=λ n=>setDrawn a>>=λ d=>if d=true then drawOrder n (List.range n)>>=λ l=>newTuple (l.map λ(i:Nat)=>rawInt i)>>=λ first=>setEpoch a>>=λ ep=>newFields "set_iterator" [first,rawInt 0,.ref a,rawInt n,rawInt ep]>>=λ r=>ret r else pure (rawInt 0)>>=λ first=>setEpoch a>>=λ ep=>newFields "set_iterator" [first,rawInt 0,.ref a,rawInt n,rawInt ep]>>=λ r=>ret r) _ _ _;refine ag (ag (wpAny_setEntries_of e rfl g.fits (ax (ag ?_))));unfold setDrawn setsByText;refine ag (wpAny_setState_of e rfl g.fits (ag (ag (sU (ax (ax ?_))))));have fin:∀(T:Addr)(first:Value)(L:List (Int×Value))(s':Shared)(h':Heap)(v:Drawn),s'={s with heap:=h',drawn:=v}->(∀b o,s.heap.get? b=some o->h'.get? b=some o)->s.heap.objs.size<=h'.objs.size->L.Perm es.toList->(∀C:Heap,(∀b o,h'.get? b=some o->C.get? b=some o)->nF w a ep es t T C L first 0)->T<h'.objs.size->(T=a\/s.heap.objs.size<=T)->
   wpAny (model prog w) A.in1 (setEpoch a>>=λ ep=>newFields "set_iterator" [first,rawInt 0,.ref a,rawInt es.size,rawInt ep]>>=λ r=>ret r) (λ fin s'=>∃r,fin= .done (.ret r)/\∃m c,s'.TypeIs r m/\typeLookup (.type m) "__next__"=pure (some c)/\Q r s') E s':=by
  intro T first L s' h' v f u y hp hi h N
  subst f;have M:=u _ _ e;refine ag (wpAny_setEpoch_of M rfl g.fits (ag (j3 (ax ⟨_,rfl,"set_iterator",_,⟨_,bS _ rfl,rfl⟩,iu.lookup,?_⟩))));exact q L T h'.objs.size _ v hp (λ b o k=>bN _ (u b o k)) y h N ⟨bN _ M,first,bS _ rfl,hi _ λ b o k=>bN _ k⟩
 cases U:w.params.followText "set-order"with
 |true=>rw[show(!(model prog w).w.params.followText "set-order"&&_)=false from by rw[show(model prog w).w.params.followText "set-order"=true from U];rfl];exact ag (ax (fin a (rawInt 0) _ s s.heap s.drawn rfl (λ D D z=>z) (ah _) (tM _ es) (λ C D=> .text U rfl 0 0) (b6 e) (.inl rfl)))|false=>cases hd:(!t.plain&&decide (es.size>1))with
  |false=>rw[show(!(model prog w).w.params.followText "set-order"&&_)=false from by rw[show(model prog w).w.params.followText "set-order"=false from U];exact hd];exact ag (ax (fin a (rawInt 0) _ s s.heap s.drawn rfl (λ D D z=>z) (ah _) (.refl _) (λ C D=> .slots U hd rfl 0 0 ⟨cI _,λ i D q=>absurd q (jW _),λ i D D=>cI _⟩) (b6 e) (.inl rfl)))|true=>
   rw[show(!(model prog w).w.params.followText "set-order"&&_)=true from by exact(show(model prog w).w.params.followText "set-order"=false from U)▸hd];rw[ar rfl];refine ag (EH es.size _ _ _ eB λ l v p=>ag (j3 ?_ (by
    refine(?_:(l.map _).toArray.size<=sizeLine)
    rw[cf,a7,p.length_eq,eB]
    exact fits_of_scanBound (bt g.PS dD))))
   have H:∀i∈l,i<es.size:=λ i hi=>dY.mp (p.mem_iff.mp hi);refine fin _ _ (l.filterMap (es[·]?)) _ _ v rfl (λ b o k=>bN _ k) (by rw[b9];exact bR _) ((p.filterMap _).trans (.of_eq (filterMap_getElem?_range es))) (λ C u=> .drawn l 0 (u _ _ (bS _ rfl)) ?_ 0) (by rw[b9];exact bz _) (.inr (ah _));clear p hd u;induction l with
   |nil=>rfl|cons i l ih=>have hi:=H i (.head _);have x:es[i]? =some es[i]:=qT hi;rw[fG,List.filterMap_cons_some x,fG,ih λ j hj=>H j (.tail _ hj),x]
def KP{l:aj}(h:Up l){i:Nat}(hi:i<l.length):Nv l (l[i]+1) (i+1):=⟨hi,λ j t d=>Nat.lt_succ_of_le ((lF (iG d)).elim (λ q=>bo (s7 h q hi)) λ q=>by subst q;exact ah _),λ j t d=>s7 h d t⟩
def G9{a:Addr}{xs:List Int}{es:Array (Int×Value)}{ep:Nat}{t:SetTable}{T:Addr}{L:List (Int×Value)}{H i:Nat}{Q:Option (Value×Nat)->Shared->Prop}(e:s.heap.get? a=some (qh es ep t))(g:ib prog w es t xs)(hi:nF w a ep es t T h L (rawInt H) i)(o:∀x(n:Nat),L[i]? =some x->(∀h',nF w a ep es t T h' L (rawInt n) (i+1))->Q (some (x.2,n)) s)(b:L[i]? =none->Q none s):wpAny (model prog w) A (setNext a H i ep) Q E s:=by unfold setNext setsByText;refine ag (wpAny_setState_of e rfl g.fits (ag (ag (sU (ax ?_)))));generalize p:rawInt (H:Int)=v at hi;induction hi with
 |text U j n i=>
  rw[ar (show(model prog w).w.params.followText "set-order"=true from U),au (by rw[bne_self_eq_false];exact iJ)];refine ag ?_;unfold setWalk setsByText;refine ag (wpAny_setState_of e rfl g.fits (ag (ag (sU (ax ?_)))));rw[ar (show(model prog w).w.params.followText "set-order"=true from U)];refine ag (sU (ax (ax ?_)));have c:(pickOrder (w.params.setOrder a ep) es)[i]? =L[i]? :=by rw[j,Array.getElem?_toList]
  refine(?_:Q (((pickOrder (w.params.setOrder a ep) es)[i]?).map λ e=>(e.2,H)) s);rw[c];cases C:L[i]?with
  |none=>exact b C|some x=>exact o x H C λ h'=> .text U j H (i+1)
 |slots U hd j n i y=>
  obtain rfl:H=n:=Int.ofNat.inj (Value.int.inj p).1;have M:¬(model prog w).w.params.followText "set-order"=true:=by exact(show(model prog w).w.params.followText "set-order"=false from U)▸iJ
  rw[au M];refine(?_:wpAny _ _ (if(!t.plain&&decide (es.size>1))=true then _ else _) _ _ _);rw[hd,au iJ];have f:t.led=true:=by rw[g.tab.led,U];rfl
  refine ag ?_;refine(?_:wpAny _ _ (if(!t.led&& !es.isEmpty)=true then _ else _) _ _ _);rw[f];refine ax ?_;have hp:t.place.size=es.size:=by have:=g.fits;replace this:=(ao this).imp ae ae;exact this.1
  rw[(below_at g.tab.up H).uniq y];dsimp only;rcases Nat.lt_or_ge i es.size with I|z;have k:i<t.place.size:=hp▸I;rw[qT I,qT k];exact ax (o es[i] _ (by rw[j,Array.getElem?_toList,qT I]) λ h'=> .slots U hd j _ _ (KP g.tab.up k));exact Array.getElem?_eq_none z▸ax (b (by rw[j,Array.getElem?_toList,Array.getElem?_eq_none z]))
 |drawn=>exact Value.noConfusion p
def nF.at{a:Addr}{es:Array (Int×Value)}{ep:Nat}{t:SetTable}{T:Addr}{h h':Heap}{L:List (Int×Value)}{v:Value}{i:Nat}(x:nF w a ep es t T h L v i)(k:∀o,h.get? T=some o->h'.get? T=some o):nF w a ep es t T h' L v i:=by induction x with
 |text U A H i=>exact .text U A H i|slots U hd A H i C=>exact .slots U hd A H i C
 |drawn l n G A i=>exact .drawn l n (k _ G) A i
def qx{I:Addr}{vs:Array Value}{k:Nat}{v:Value}{Q:Unit->Shared->Prop}(n:s.heap.get? I=some {cls:= .type "set_iterator",data:= .fields vs})(u:k<vs.size)(q:∀h',(∀b o,b≠I->s.heap.get? b=some o->h'.get? b=some o)->s.heap.objs.size<=h'.objs.size->h'.get? I=some {cls:= .type "set_iterator",data:= .fields (vs.setIfInBounds k v)}->Q () {s with heap:=h'}):wpAny (model prog w) A (setField (.ref I) k v) Q E s:=wpAny_setField n rfl u (q _ (λ b o x e=>(jZ _ _ (Ne.symm x)).trans e) (bO (Heap.size_update ..).symm) (Heap.get?_update_self _ n rfl))
noncomputable def ML(r:Except Value (Option Value)):Sem (Option Value):=match r with
 | .ok (some v)=>pure (some v)| .ok none=>unsupported "iter:the-iterator's-class-has-lost-its-__next__-amid-the-walk"
 | .error e=>isInstance e (.type "StopIteration")>>=λ b=>if b=true then pure none else throw e
def N7(prog:Program)(w:World)(A:Around)(E:dM)(Q:Option Value->Shared->Prop)(fin:PySem.Fin)(s':Shared):Prop:=∃v,fin= .done (.ret v)/\wpAny (model prog w) A (ML (.ok (some v))) Q E s'
def N8(prog:Program)(w:World)(A:Around)(E:dM)(Q:Option Value->Shared->Prop)(e:Value)(s':Shared):Prop:=wpAny (model prog w) A (ML (.error e)) Q E s'
def Dc(f:A.handled=none){Q:Option Value->Shared->Prop}(q:∀h',(∀b o,s.heap.get? b=some o->h'.get? b=some o)->s.heap.objs.size<=h'.objs.size->Q none {s with heap:=h'}):wpAny (model prog w) A.in1 (newExc (.type "StopIteration") []>>=λ e=>(raiseNew e:Sem PySem.Fin)) (N7 prog w A E Q) (N8 prog w A E Q) s:=by refine ag ?_;simp only[newExc,newTuple];refine ag (j3 ?_ (by size_fits));refine ag (m:=firstArgMember _ _) (fq (a:=Value.none) (by first|rfl|(simp only[firstArgMember];rfl)) ?_);refine j3 ?_ (by size_fits);simp only[raiseNew];refine ag (wpAny_handled ?_);rw[show A.in1.handled=none from f];refine ag (ax (wpAny_throw ?_));refine ag (wpAny_isInstance (T:="StopIteration") (b:=true) ⟨_,bS _ rfl,rfl⟩ isSubtype_stop ?_);exact ax (q _ (λ b o e=>bN _ (bN _ e)) (by rw[b9,b9];exact av _ 2))
def Dd(f:A.handled=none){a:Addr}{xs:List Int}{es:Array (Int×Value)}{ep:Nat}{t:SetTable}{T I:Addr}{L:List (Int×Value)}{i:Nat}{Q:Option Value->Shared->Prop}(g:ib prog w es t xs)(st:G8 w a ep es t L T I i s.heap)(n1:a≠I)(n2:T≠I)(u:∀x h',L[i]? =some x->(∀b o,b≠I->s.heap.get? b=some o->h'.get? b=some o)->s.heap.objs.size<=h'.objs.size->G8 w a ep es t L T I (i+1) h'->Q (some x.2) {s with heap:=h'})(z:∀h',L[i]? =none->(∀b o,b≠I->s.heap.get? b=some o->h'.get? b=some o)->s.heap.objs.size<=h'.objs.size->Q none {s with heap:=h'}):wpAny (model prog w) A (pyNext (.ref I)) Q E s:=by
 obtain⟨e,v,d,si⟩:=st;have G:s.TypeIs (.ref I) "set_iterator":=⟨_,d,rfl⟩;unfold pyNext;refine ag (wpAny_attempt (wpAny_callSpecial?_slot (name:=Str.ofString "__next__") G iu (lG iu G vr ?_ rfl)));refine(?_:wpAny _ _ _ (N7 prog w A E Q) (N8 prog w A E Q) _);unfold Builtin.«set_iterator.__next__»;refine ag (ax (ag (wpAny_fieldsOf d rfl ?_)));have hsz:∀{α:Type}(x y:Sem α),(if((es.size:Int)!=(es.size:Int))=true then x else y)=y:=λ x y=>au (by rw[bne_self_eq_false];exact iJ);have num:∀H:Nat,v=rawInt H->wpAny (model prog w) A.in1 (setNext a H i ep>>=λ r=>match r with
    |some (x,next)=>setField (.ref I) 0 (rawInt (next:Nat))>>=λ D=>setField (.ref I) 1 (rawInt ((i:Int)+1))>>=λ D=>ret x|none=>setField (.ref I) 2 .none>>=λ D=>newExc (.type "StopIteration") []>>=λ e=>(raiseNew e:Sem PySem.Fin)) (N7 prog w A E Q) (N8 prog w A E Q) s:=λ H ev=>by
  subst ev;refine ag (G9 e g si (λ x F7 C XS=> ?_) λ C=> ?_);exact ag (qx d (by refine(?_:0<5);decide) λ M k1 c h=>ag (qx (s:={s with heap:=M}) h (by refine(?_:1<5);decide) λ N k2 q e2=>ax ⟨_,rfl,ax (u x N C (λ b o k j=>k2 b o k (k1 b o k j)) (aa c q) ⟨k2 _ _ n1 (k1 _ _ n1 e),_,e2,XS N⟩)⟩));exact ag (qx d (by refine(?_:2<5);decide) λ M k1 c h=>Dc f λ N k2 q=>z N C (λ b o k j=>k2 b o (k1 b o k j)) (aa c q))
 induction si with
 |text hb U H i=>exact ag (wpAny_setEntries_of e rfl g.fits ((hsz _ _).symm▸num H rfl))|slots hb hd U H i hs=>exact ag (wpAny_setEntries_of e rfl g.fits ((hsz _ _).symm▸num H rfl))
 |drawn l n G U i=>
  refine ag (wpAny_setEntries_of e rfl g.fits ((hsz _ _).symm▸?_));refine ag (m:=seqItems? (.ref T)) (ag (wpAny_load G (ax ?_)));have hi:(l[i]?).map (es[·]?)=(L[i]?).map some:=by rw[<-gL,U,gL]
  have SX:((l.map λ(i:Nat)=>rawInt i).toArray)[(i:Int).toNat]? =(l[i]?).map λ(i:Nat)=>rawInt i:=(hY ..).trans (gL ..);dsimp only;rw[SX];cases hl:l[i]?with
  |none=>rw[hl]at hi;have C:L[i]? =none:=Option.map_eq_none_iff.mp hi.symm;exact ag (qx d (by refine(?_:0<5);decide) λ M k1 c h=>ag (qx (s:={s with heap:=M}) h (by refine(?_:2<5);decide) λ N k2 q e2=>Dc (s:={s with heap:=N}) f λ h3 k3 z3=>z h3 C (λ b o k j=>k3 b o (k2 b o k (k1 b o k j))) (aa (aa c q) z3)))|some p=>rw[hl]at hi;obtain⟨x,C,hp⟩:=dR.mp hi.symm;show wpAny _ _ (setNextDrawn a p ep>>=_) _ _ _;unfold setNextDrawn;refine ag (ag (wpAny_setState_of e rfl g.fits ?_));dsimp only;rw[au (by rw[bne_self_eq_false];exact iJ),show es[p]? =some x from hp.symm];exact ax (ag (qx d (by refine(?_:1<5);decide) λ M k1 c h=>ax ⟨_,rfl,ax (u x M C (λ b o k j=>k1 b o k j) c ⟨k1 _ _ n1 e,_,h,.drawn l n (k1 _ _ n2 G) U (i+1)⟩)⟩))
end
def zA(h:Heap)(a:Addr)(f:Obj->Obj):(h.update a f).objs.size=h.objs.size:=by simp[Heap.update]
def Runs.grow{M:Model}{a:Ctx}{p:Pos}{t:Sem Fin}{fs:List Frame}{s s':Shared}{e:End}(h:Runs M a p t fs s e s'):s.heap.objs.size<=s'.heap.objs.size:=by induction h with
 |done|raise|yield=>exact ah _|update _ _ z=>rw[<-zA];exact z
 |alloc _ z=>exact aa (by rw[b9];exact bR _) z|call _ _ i j=>exact aa i j
 |resumeFresh _ _ _ _ i j=>exact aa i j|resumeSuspended _ _ _ _ i j=>exact aa i j
 |segRet _ _ i j=>exact aa i j|segGen _ _ i j=>exact aa i j
 |segSuspGen _ _ _ _ i j=>exact aa i j|_=>assumption
def KQ{α:Type}{M:Model}{x:Ctx}(t:Sem α){Q:α->Pos->Shared->Prop}{E:Value->Pos->Shared->Prop}(n:Nat):∀{p:Pos}{s:Shared},n<=s.heap.objs.size->Sem.wp M x t (λ a A s'=>n<=s'.heap.objs.size->Q a A s') (λ e A s'=>n<=s'.heap.objs.size->E e A s') p s->Sem.wp M x t Q E p s:=by induction t with
 |pure a=>intro p s T h;exact h T|raise a=>intro p s T h;exact h T
 |load a _ k z=>intro p s T ⟨o,e,h⟩;exact⟨o,e,z o T h⟩|update a _ f k z=>intro p s T ⟨e,h⟩;exact⟨e,z () (by refine(?_:n<=(s.heap.update a f).objs.size);rw[zA];exact T) h⟩
 |alloc o k z=>intro p s T h;exact z _ (by refine(?_:n<=(s.heap.push o).objs.size);rw[b9];exact jk T) h|choose src m k z=>intro p s T ⟨e,h⟩;exact⟨e,z _ T h⟩
 |call c j _ _ k z=>intro p s T ⟨r,s',l,h⟩;exact⟨r,s',l,z r (aa T (Runs.grow l)) h⟩|genState g k z=>intro p s T ⟨st,e,h⟩;exact⟨st,e,z _ T h⟩
 |resume g r _ k z=>intro p s T ⟨res,s',w,h⟩;refine⟨res,s',w,z res (aa T ?_) h⟩;unfold Wakes at w;split at w;exact w.elim;split at w;obtain⟨b,y,l,D,D,rfl⟩:=w;exact(Runs.grow l:(s.setGen g .running).heap.objs.size<=y.heap.objs.size);obtain⟨D,rfl⟩:=w;exact ah _;obtain⟨D,rfl⟩:=w;exact ah _;obtain⟨b,y,l,D,D,rfl⟩:=w;exact(Runs.grow l:(s.setGen g .running).heap.objs.size<=y.heap.objs.size);obtain⟨D,rfl⟩:=w;exact ah _;obtain⟨D,rfl⟩:=w;exact ah _
 |unsupported _=>intro p s T h;exact h|finish _=>intro p s T h;exact h
 |register _ _ _=>intro p s T h;exact h|yield _ _ _ _ _=>intro p s T h;exact h
 |fork _ _ _=>intro p s T h;exact h|await _ _ _ _ _ _=>intro p s T h;exact h
 |rule _ k z=>intro p s T h;exact z () T h|«at» _ k z=>intro p s T h;exact z () T h
 |point _ k z=>intro p s T h;exact z () T h|loadIfAlive _ k z=>intro p s T h;exact z _ T h
 |fresh k z=>intro p s T h;exact z _ T h|ask k z=>intro p s T h;exact z _ T h
 |os _ _ k z=>intro p s T h;exact z _ T h|handled _ k z=>intro p s T h;exact z _ T h
 |newGen _ k z=>intro p s T h;exact z _ T h|stack k z=>intro p s T h;exact z _ T h
 |thread k z=>intro p s T h;exact z _ T h
def BD{α:Type}{M:Model}{t:Sem α}{Q:α->Shared->Prop}(h:wpAny M A t (λ a s'=>s.heap.objs.size<=s'.heap.objs.size->Q a s') (λ e s'=>s.heap.objs.size<=s'.heap.objs.size->E e s') s):wpAny M A t Q E s:=λ k p b=>KQ t _ (ah _) (h k p b)
def aO{α:Type}{M:Model}{t:Sem α}{Q:α->Shared->Prop}(h:∀f:dM,wpAny M A t (λ a s'=>s.heap.objs.size<=s'.heap.objs.size->Q a s') f s):wpAny M A t Q E s:=BD (h _)
inductive j9(J:Cx)(c:Vw)(s:Shared)(Q:aw->Mem->Prop)(N:Nat->Prop)(vals:aI)(s':Shared):Prop
 |mk (c':Vw) (vs:aw) (S:Step J c s c' s' cN) (r:aA c' s'.heap vs vals) (q:Q vs c'.Y) (n:N vs.length):j9 J c s Q N vals s'
def j9.go{t:Sem aI}{Q:aw->Mem->Prop}{N:Nat->Prop}{P:aI->Shared->Prop}(h:wpAny J.ay A t (j9 J c s Q N) E s)(f:∀xs s' G vs,Step J c s G s' cN->aA G s'.heap vs xs->Q vs G.Y->N vs.length->P xs s'):wpAny J.ay A t P E s:=aW h (λ x s' ⟨G,vs,S,r,q,n⟩=>f x s' G vs S r q n) λ D D z=>z
def cW(J:Cx)(pg:Pg)(d:Nat)(ms:List ME):Prop:=∀(k:CC)(xs:List aQ)(pos:Pos)(Q:aw->Mem->Prop)(B:aw)(Y:Mem)(A:Around)(E:dM)(c:Vw)(s:Shared)(env:Env),fP 0 k ms xs=true->wEs J pg d ms Q B Y->At J pg d k B Y A c s env->wpAny J.ay A (spliced (backTo pos (starEach xs env))) (j9 J c s Q λ n=>xs.all noStar=true->n=xs.length) E s
def zB{e:aQ}{rest:List aQ}(h:noStar e=true):starEach (e::rest) env=(false,eval e env)::starEach rest env:=by induction e using wa<;>first|rfl|exact nf h
def tR{e:ME}{es:List ME}{Q:aw->Mem->Prop}(h:e.isStar=false):wEs J pg d (e::es) Q B Y=wE J pg d e (λ v Y=>wEs J pg d es (λ ws Y=>Q (v::ws) Y) B Y) B Y:=by induction e using ME.casesOn<;>first|rfl|exact nf h.symm
def De{md:Nat}{e:ME}{es:List ME}{x:aQ}{xs:List aQ}(h:e.isStar=false):fP md k (e::es) (x::xs)=((noStar x&&KH md e x)&&b4 md k e x&&fP md k es xs):=by refine(?_:((e.isStar||_)&&_&&_)=_);refine h.symm▸?_;rfl
def KR:cW J pg d []:=by intro k xs pos Q B Y A E c s env h w T;exact(lq (α:=aQ) (l:=xs) (by induction xs<;>first|rfl|exact nf h))▸wpAny_items_nil ⟨c,[],.refl T.rl,trivial,by refine T.sg.symm▸?_;exact w,λ D=>rfl⟩
inductive BE(c:Vw)(h:Heap)(vs:aw):Value->Prop
 |mk (T:String) (a:Addr) (aM:aI) (hT:T="list"\/T="tuple") (sq:SeqAt h T a aM) (rs:aA c h vs aM) (hl:vs.length<=100000):BE c h vs (.ref a)
def Df(R:Rel J c s){v:V}{x:Value}{vs:aw}(r:aE c s.heap v x)(h:TX true v c.Y=some vs):BE c s.heap vs x:=by
 have go:∀{u:V},(match bD c.Y u with|some vs=>if short vs then some vs else none|none=>none)=some vs->aE c s.heap u x->BE c s.heap vs x:=by intro u h r;obtain⟨ws,e,h⟩:=q9 h;have h:=bb h;obtain⟨a,f,rfl,U,E⟩:=cu R r e;rw[h.2]at E h;exact⟨"list",a,f,.inl rfl,U,E,ae h.1⟩
 induction v using vC with
 |tuple ws=>have h:=bb h;obtain⟨a,f,rfl,U,D,E⟩:=r;rw[h.2]at E h;exact⟨"tuple",a,f,.inr rfl,U,E,ae h.1⟩
 |ref i=>exact go (u:= .ref i) h r|list ws=>exact go (u:= .list ws) h r
 |_=>exact nn h
def jN{T:String}{a:Addr}{f:aI}{Q:Bool->Shared->Prop}(G:T="list"\/T="tuple")(c:SeqAt s.heap T a f)(q:Q false s):wpAny J.ay A (notIterableAtAll (.ref a)) Q E s:=by obtain⟨n,e⟩:=c;have C:s.TypeIs (.ref a) T:=⟨_,e,rfl⟩;rcases G with rfl|rfl;exact ag (wpAny_specialOf C (r:=some (.builtin "list.__iter__")) (by kernel_rfl) (ax q));exact ag (wpAny_specialOf C (r:=some (.builtin "tuple.__iter__")) (by kernel_rfl) (ax q))
def Oa{m:ME}{ms:List ME}(H:m.isStar=false)(hm:aH J pg d m)(l:cW J pg d ms):cW J pg d (m::ms):=by intro k xs pos Q B Y A E c s env h w T;induction xs using lC with
 |nil=>exact nf h|cons x xs=>rw[De H]at h;rw[tR H]at w;have h:=ao h;have M:=ao h.1;exact wpAny_items_cons ((hm k x _ B Y A E c s env M.2 w T).go λ y f c₁ v S r o=>j9.go (l k xs pos _ B c₁.Y A E c₁ f env h.2 o (T.step S)) λ ys U c₂ vs b L q I=>⟨c₂,v::vs,S.trans b,⟨r.carry b.carry,L⟩,q,λ C=>aF (·+1) (I (ao C).2)⟩) (zB (ao M.1).1)
def Ha{a:ME}{ms:List ME}(hm:aH J pg d a)(l:cW J pg d ms):cW J pg d (.star a::ms):=by intro k xs pos Q B Y A E c s env h w T;induction xs using lC with
 |nil=>exact nf h|cons x xs=>have h:=ao h;refine qu (P:=λ x=>wpAny J.ay A (spliced (backTo pos (starEach (x::xs) env))) (j9 J c s Q λ n=>(x::xs).all noStar=true->n=(x::xs).length) E s) h.1 λ x p N=> ?_;show wpAny _ _ (spliced ((true,do let v<-eval x env;standAt pos;pure v)::backTo pos (starEach xs env))) _ _ _;refine ag (ag ((hm k x _ B Y A E c s env N w T).go λ y f c₁ v S r i=>dt i λ vs j i=> ?_));obtain⟨TT,b,m,G,U,g,I⟩:=Df S.rel r j;refine ag (cP (ax (ag (jN G U ?_))));obtain⟨n,e⟩:=U;refine ag (aO λ z=>wpAny_collect_seq b G e rfl rfl (λ h' u L=> ?_) (by refine cf.symm▸g.length▸aK.symm▸?_;exact aa I dD));have t:Step J c₁ f c₁ {f with heap:=h'} cN:=S.rel.other cN (λ b o e D=>u b o e) (λ D h=>h.elim) L rfl rfl;exact ag (bB (j9.go (l k xs pos _ B c₁.Y A E c₁ _ env h.2 i (T.step (S.trans t))) λ ys aS c₂ ws M H q D=>ax ⟨c₂,vs++ws,(S.trans t).trans M,((g.carry t.carry).carry M.carry).append H,q,λ C=>nf (ao C).1⟩))
def gj.after{c c₁:Vw}{s y s':Shared}{x:Value}(S:Step J c s c₁ y cN)(h:gj J c₁ y Q x s'):gj J c s Q x s':=let⟨G,v,w,r,q⟩:=h;⟨G,v,S.trans w,r,q⟩
def zC{vs:aw}{xs:aI}{es:List aQ}(r:aA c h vs xs)(n:es.all noStar=true->vs.length=es.length)(M:es.all noStar=true)(N:decide (es.length<=1000)=true):xs.length<=sizeLine:=by have:=ae N;refine r.length▸(n M).symm▸aK.symm▸?_;exact aa (ae N) dD
def Ob(mt:Bool){es:List ME}(he:cW J pg d es):aH J pg d (.list mt es):=by intro k e Q B Y A E c s env h w T;refine NS (P:=λ e=>bA J A E c s (eval e env) Q) h λ g p h=> ?_;have h:=ao h;have M:=ao h.1;refine wpAny_List (j9.go (he k g p _ B Y A E c s env M.1 w T) λ vals y c₁ vs S f r I=>⟨zC f I M.2 h.2,?_⟩);induction mt with
 |false=>exact(oM S.rel f r).after S|true=>exact(wj S.rel f r).after S
def Oc{a b:ME}(C:aH J pg d a)(U:aH J pg d b):aH J pg d (.mulM a b):=by intro k e Q B Y A E c s env h w T;refine C5 (P:=λ e=>bA J A E c s (eval e env) Q) h λ l v r p h=> ?_;have h:=ao h;have M:=ao h.1;refine(show v= .Mult from ae M.1).symm▸?_;refine wpAny_BinOp (two C U T M.2 h.2 w λ x y N c₂ va vb S i o G=>dt G λ xs j q=> ?_);obtain⟨n,I,j⟩:=bind_some j;obtain⟨zs,L,j⟩:=bind_some j;have j:=bb j;have U:=ao j.1;have f:=ao U.2;rw[V.gG I]at o;obtain⟨u,rfl⟩:=o;obtain⟨H,z,rfl,⟨m,e⟩,g⟩:=cu S.rel i L;rw[<-j.2]at q;exact oV e (ae U.1) (ae f.1) (by refine cf.symm▸g.length▸?_;exact ae f.2) ((wj S.rel (t:=N.toks) (g.rep n.toNat) q).after S)
def KS{es:List ME}(he:cW J pg d es):aH J pg d (.tuple es):=by intro k e Q B Y A E c s env h w T;refine sD (P:=λ e=>bA J A E c s (eval e env) Q) h λ g n p h=> ?_;have h:=ao h;have M:=ao h.1;exact wpAny_Tuple (j9.go (he k g p _ B Y A E c s env M.1 w T) λ vals y c₁ vs S f r I=>⟨zC f I M.2 h.2,(Ej S.rel f r).after S⟩)
def QQ{t a b:ME}(I:eZ J pg d t)(C:aH J pg d a)(U:aH J pg d b):aH J pg d (.Qw t a b):=by
 intro k e Q B Y A E c s env h w T;refine Ky (P:=λ e=>bA J A E c s (eval e env) Q) h λ f o N p h=> ?_;have h:=ao h;have M:=ao h.1;refine wpAny_IfExp ((I k f (λ q Y=>match q with
   |true=>wE J pg d a Q B Y|false=>wE J pg d b Q B Y) B Y A E c s env M.1 w T).go λ q y c₁ S r=> ?_)
 induction q with
 |true=>exact(C k o Q B c₁.Y A E c₁ y env M.2 r (T.step S)).after S|false=>exact(U k N Q B c₁.Y A E c₁ y env h.2 r (T.step S)).after S
def QR{a b:ME}(C:aH J pg d a)(N:aH J pg d b):aH J pg d (.bor a b):=by intro k e Q B Y A E c s env h w T;refine tD (P:=λ e=>bA J A E c s (eval e env) Q) h λ I xs p h=> ?_;have h:=ao h;refine(ae h.1).symm▸?_;refine J4 (P:=λ xs=>bA J A E c s (eval (.BoolOp .Or xs p) env) Q) h.2 λ x y h=> ?_;have h:=ao h;refine wpAny_Or2 ((C k x _ B Y A E c s env h.1 w T).go λ u f c₁ v S r o=>dt o λ q i o=>(q7 (Q:=λ M σ'=>M=q/\σ'=c₁.Y) S.rel r i ⟨rfl,rfl⟩).go λ M G c₂ U e=> ?_);rw[<-e.1,<-e.2]at o;induction M with
 |true=>exact⟨c₂,v,S.trans U,r.carry U.carry,o⟩|false=>exact(N k y Q B c₂.Y A E c₂ G env h.2 o (T.step (S.trans U))).after (S.trans U)
def isTrue_plain{e:aQ}{whole:Sem Value}(h:plainT e=true):PySem.isTrue e env whole=(do let v<-whole;standAt e.pos;holding [v] (truthy v)):=by induction e using wa with
 |UnaryOp b _ _=>induction b<;>first|rfl|exact nf h
 |_=>first|rfl|exact nf h
def Hb{m:ME}(hm:aH J pg d m)(M:G2 m=false)(hp:∀k e,b4 1 k m e=true->b4 0 k m e=true):eZ J pg d m:=λ k e Q B Y A E c s env h w T=>have h:=ao h
 wpAny_isTrue_value ((hm k e _ B Y A E c s env (hp k e h.2) w T).go λ x y c₁ v S r o=>dt o λ q i o=>(q7 S.rel r i o).after S) (isTrue_plain (by
  have h:=h.1
  unfold KH at h
  rw[M]at h
  exact h))
def qy(ok:bp J){U:CmpOp}{a b:V}{x y:Value}{v:Bool}{P:dM}(u:A.units+10<cLine)(R:Rel J c s)(q:aE c s.heap a x)(o:aE c s.heap b y)(h:qm c.Y U a b=some v)(f:∀s' G,Step J c s G s' cN->G.Y=c.Y->P (.bool v) s'):wpAny J.ay A (compareOp U x y) P E s:=(mH (Q:=λ u Y=>u= .bool v/\Y=c.Y) R ok.sys u q o h ⟨rfl,rfl⟩).go λ z j I u g k e=>by refine(show z= .bool v by rw[e.1]at k;exact k).symm▸?_;exact f j I g e.2
def Od(ok:bp J)(U:CmpOp){a b:ME}(C:aH J pg d a)(M:aH J pg d b):eZ J pg d (.cmp U a b):=λ k e Q B Y A E c s env h w T=>C9 (P:=λ e=>zb J A E c s (PySem.isTrue e env (eval e env)) Q) (ao h).2 λ l r p N G hm=>wpAny_isTrue_Compare1 (two C M T N G w λ x y L c₂ va vb S o i I=>dt I λ v n q=>qy ok T.units S.rel o i n λ j u f e=>wpAny_truthy_bool ⟨u,S.trans f,by exact e▸q⟩) hm
def KU(ok:bp J){a b e:ME}(N I:CmpOp)(C:aH J pg d a)(L:aH J pg d b)(he:aH J pg d e):eZ J pg d (.qp a N b I e):=by intro k ex Q B Y A E c s env h w T;refine zx (P:=λ e=>zb J A E c s (PySem.isTrue e env (eval e env)) Q) (ao h).2 λ l m r p H g n hm=> ?_;refine isTrue_chain (aW (two C L T H g w (Q:=λ x y M=>_) λ x y M c₂ va vb S t i U=> ?_) (λ x aq j=>test_link (aW j (λ y M hy=>hy) λ D D z=>z)) λ D D z=>z) hm;refine dt U λ q hq U=>qy ok T.units S.rel t i hq λ bw G f e=>wpAny_truthy_bool ?_;rw[<-e]at U;induction q with
 |false=>exact⟨G,S.trans f,U⟩|true=>refine test_last ((he k r _ B G.Y A E G bw env n U ((T.step S).step f)).go λ u lD vq ve o EE EF=>dt EF λ v hv q=>qy ok T.units o.rel ((i.carry f.carry).carry o.carry) EE hv λ mf ka fb e=>wpAny_truthy_bool ⟨ka,((S.trans f).trans o).trans fb,by exact e▸q⟩)
def Oe{a:ME}(C:eZ J pg d a):eZ J pg d (.zu a):=by intro k e Q B Y A E c s env h w T;refine qs (P:=λ e=>zb J A E c s (PySem.isTrue e env (eval e env)) Q) (ao h).2 λ U x p h=> ?_;have h:=ao h;exact ae h.1▸wpAny_isTrue_Not ((C k x (λ b Y=>Q (!b) Y) B Y A E c s env h.2 w T).go λ b s' G S q=>⟨G,S,q⟩)
def mK(J:Cx)(pg:Pg)(d:Nat)(ms:List ME):Prop:=∀(k:CC)(xs:List aQ)(Q:Bool->Mem->Prop)(B:aw)(Y:Mem)(A:Around)(E:dM)(c:Vw)(s:Shared)(env:Env),fP 1 k ms xs=true->At J pg d k B Y A c s env->(wTs J pg d ms Q B Y->zb J A E c s (allTrue .And xs env) Q)/\(SR J pg d ms Q B Y->zb J A E c s (allTrue .Or xs env) Q)
def KV:mK J pg d []:=by intro k xs Q B Y A E c s env h T;exact(lq (α:=aQ) (l:=xs) (by induction xs<;>first|rfl|exact nf h))▸⟨λ w=>wpAny_allTrue_And_nil ⟨c,.refl T.rl,by refine T.sg.symm▸?_;exact w⟩,λ w=>wpAny_allTrue_Or_nil ⟨c,.refl T.rl,by refine T.sg.symm▸?_;exact w⟩⟩
def wB{m:ME}{ms:List ME}{x:aQ}{xs:List aQ}(h:fP 1 k (m::ms) (x::xs)=true):noStar x=true/\N1 k m x=true/\fP 1 k ms xs=true:=by have h:=ao h;have M:=ao h.1;cases H:m.isStar with
 |true=>exact ME.mJ (P:=λ m=>b4 1 k m x=true->_) H (λ a h=>nf h) M.2|false=>have N:=M.1;rw[H]at N;exact⟨(ao N).1,by delta N1;rw[(ao N).2,M.2];rfl,h.2⟩
def Hc{m:ME}{ms:List ME}(hm:eZ J pg d m)(l:mK J pg d ms):mK J pg d (m::ms):=by intro k xs Q B Y A E c s env h T;induction xs using lC with
 |nil=>exact nf h|cons x xs=>
  have h:=(wB h).2;constructor;intro w;refine wpAny_allTrue_And_cons ((hm k x (λ q Y=>match q with
   |true=>wTs J pg d ms Q B Y|false=>Q false Y) B Y A E c s env h.1 w T).go λ q y c₁ S r=> ?_)
  induction q with
  |true=>exact((l k xs Q B c₁.Y A E c₁ y env h.2 (T.step S)).1 r).after S|false=>exact⟨c₁,S,r⟩
  intro w;refine wpAny_allTrue_Or_cons ((hm k x (λ q Y=>match q with
   |true=>Q true Y|false=>SR J pg d ms Q B Y) B Y A E c s env h.1 w T).go λ q y c₁ S r=> ?_)
  induction q with
  |true=>exact⟨c₁,S,r⟩|false=>exact((l k xs Q B c₁.Y A E c₁ y env h.2 (T.step S)).2 r).after S
def Of{es:List ME}(he:mK J pg d es):eZ J pg d (.xr es):=by intro k e Q B Y A E c s env h w T;refine tD (P:=λ e=>zb J A E c s (PySem.isTrue e env (eval e env)) Q) (ao h).2 λ b x p h=> ?_;have h:=ao h;exact ae h.1▸wpAny_isTrue_BoolOp ((he k x Q B Y A E c s env h.2 T).1 w)
def QS{es:List ME}(he:mK J pg d es):eZ J pg d (.Qx es):=by intro k e Q B Y A E c s env h w T;refine tD (P:=λ e=>zb J A E c s (PySem.isTrue e env (eval e env)) Q) (ao h).2 λ b x p h=> ?_;have h:=ao h;exact ae h.1▸wpAny_isTrue_BoolOp ((he k x Q B Y A E c s env h.2 T).2 w)
section
variable{M:Model}
def bM{pos:Pos}{f:Value}{first:aI}{args:List (Bool×Sem Value)}{keywords:List (Option Str×Sem Value)}{Q:dM}(h:wpAny M A (evalArgs f true args keywords) (λ a y=>(∃k,Looks M y.heap (keeperOf f) k)/\wpAny M A (call f (first++a.pos) a.kw) Q E y) E s):wpAny M A (callWith pos f first args keywords) Q E s:=by
 refine ag (bB (aW h (λ a y H=>ag (cP ?_)) λ D D x=>x));obtain⟨⟨k,L⟩,H⟩:=H;refine ag (L.here ?_);have tail:∀{t:Sem Value},wpAny M A t Q E y->wpAny M A (t>>=λ r=>holding [r] point>>=λ D=>pure r) Q E y:=
  λ I=>ag (aW I (λ r U l=>ag (bB (wpAny_point (ax l)))) λ D D x=>x)
 have marked (mk:Value):wpAny M A (callMarked mk f (first++a.pos) a.kw) Q E y:=by skip;exact Calls.wpAny_keep H
 induction k<;>cases(args.any (·.1)||keywords.any (·.1.isNone))<;>dsimp only<;>first|exact tail H|exact tail (marked _)|exact tail (wpAny_operateT H)|(split<;>first|exact tail H|exact tail (marked _))
noncomputable def o7(l:List (Bool×Sem Value)):Bool:=l1 l (·.1)
def di{f:Value}{args:List (Bool×Sem Value)}{keywords:List (Option Str×Sem Value)}{Q:Args->Shared->Prop}(I:o7 args=false)(t:keywords.all (·.1.isSome)=true)(h:wpAny M A (spliced args) (λ vs g=>wpAny M A (evalAll (keywords.map (·.2))) (λ ks U=>Q ⟨vs,(keywords.filterMap (·.1)).zip ks⟩ U) E g) E s):wpAny M A (evalArgs f true args keywords) Q E s:=by
 have e:evalArgs f true args keywords=(spliced args>>=λ vs=>holding (vs++[]) (if keywords.all (·.1.isSome)then(evalAll (keywords.map (·.2))>>=λ ks=>pure vs>>=λ p=>pure ⟨p,(keywords.filterMap (·.1)).zip ks⟩)else
   mergedKeywords f keywords>>=λ d=>pure vs>>=λ pos=>holding (.ref d::pos) (keywordsIn f d)>>=λ ks=>pure ⟨pos,ks⟩)):=by
  induction args with
  |nil=>rfl|cons a r=>obtain⟨b,x⟩:=a;induction r with
   |nil=>induction b with
    |true=>exact nf I.symm|false=>rfl
   |cons y r=>induction b<;>rfl
 refine e.symm▸t.symm▸?_;exact ag (aW h (λ vs g L=>bB (ag (aW L (λ ks U C=>ag (ax (ax C))) λ D D z=>z))) λ D D z=>z)
end
def mL(J:Cx)(pg:Pg)(d:Nat)(ms:List ME):Prop:=∀(k:CC)(ks:List Keyword)(pos:Pos)(Q:aw->Mem->Prop)(B:aw)(Y:Mem)(A:Around)(E:dM)(c:Vw)(s:Shared)(env:Env),fP 0 k ms (ks.map (·.value))=true->(ks.map (·.value)).all noStar=true->wEs J pg d ms Q B Y->At J pg d k B Y A c s env->wpAny J.ay A (evalAll ((backToKw pos (keywordEach ks env)).map (·.2))) (j9 J c s Q λ n=>n=ks.length) E s
def mM{md:Nat}{m:ME}{x:aQ}(h:b4 md k m x=true)(p:noStar x=true):m.isStar=false:=by cases H:m.isStar with
 |false=>rfl|true=>exact ME.mJ (P:=λ m=>b4 md k m x=true->_) H (λ a h=>qu (P:=λ x=>noStar x=true->_) (ao h).2 (λ D D D h=>nf h) p) h
def jz:mL J pg d []:=by intro k ks pos Q B Y A E c s env h H w T;exact(lq (α:=Keyword) (l:=ks) (by induction ks<;>first|rfl|exact nf h))▸ax ⟨c,[],.refl T.rl,trivial,by refine T.sg.symm▸?_;exact w,rfl⟩
def He{m:ME}{ms:List ME}(hm:aH J pg d m)(l:mL J pg d ms):mL J pg d (m::ms):=by intro k ks pos Q B Y A E c s env h H w T;induction ks using lC with
 |nil=>exact nf h|cons x xs=>obtain⟨nm,v,p⟩:=x;have H:=ao H;have h:=ao h;have M:=ao h.1;rw[tR (mM M.2 H.1)]at w;show wpAny _ _ (evalAll ((do let y<-eval v env;standAt pos;pure y)::(backToKw pos (keywordEach xs env)).map (·.2))) _ _ _;exact ag (ag ((hm k v _ B Y A E c s env M.2 w T).go λ y f c₁ u S r o=>ag (cP (ax (ag (bB (j9.go (l k xs pos _ B c₁.Y A E c₁ f env h.2 H.2 o (T.step S)) λ ys U c₂ vs b L q I=>ax ⟨c₂,u::vs,S.trans b,⟨r.carry b.carry,L⟩,q,aF (·+1) I⟩)))))))
def dn.of:∀{ns:List Str}{vs:aw}{xs:aI},ns.length=xs.length->aA c h vs xs->dn c h ns vs (ns.zip xs):=by intro ns;induction ns with
 |nil=>intro vs xs e r;induction xs with
  |nil=>induction vs with
   |nil=>trivial|cons=>exact r.elim
  |cons=>exact Nat.noConfusion e
 |cons n ns z=>intro vs xs e r;induction xs with
  |nil=>exact Nat.noConfusion e|cons x xs=>induction vs with
   |nil=>exact r.elim|cons v vs=>exact⟨rfl,r.1,z (lI e) r.2⟩
def mJ(R:Rel J c s){v:V}{x:Value}{vs:aw}{Q:aI->Shared->Prop}(r:aE c s.heap v x)(h:TX true v c.Y=some vs)(q:∀xs s',Step J c s c s' cN->aA c s'.heap vs xs->Q xs s'):StarOf J.ay A E x Q s:=by obtain⟨TT,b,g,G,U,f,I⟩:=Df R r h;refine jN G U ⟨rfl,?_⟩;obtain⟨n,e⟩:=U;refine aO λ m=>wpAny_collect_seq b G e rfl rfl (λ h' u M=> ?_) (by refine cf.symm▸f.length▸aK.symm▸?_;exact aa I dD);have w:Step J c s c {s with heap:=h'} cN:=R.other cN (λ b o e D=>u b o e) (λ D h=>h.elim) M rfl rfl;exact q _ _ w (f.carry w.carry)
def Hf{ks:List Keyword}{pos:Pos}{ns:List Str}(h:ks.map (·.arg)=ns.map some):(backToKw pos (keywordEach ks env)).all (·.1.isSome)=true/\(backToKw pos (keywordEach ks env)).filterMap (·.1)=ns:=by induction ks generalizing ns with
 |nil=>induction ns using lC with
  |nil=>exact⟨rfl,rfl⟩|cons _ _=>cases h
 |cons x xs z=>obtain⟨nm,v,p⟩:=x;induction ns using lC with
  |nil=>cases h
  |cons n ns=>simp only[fG,List.cons.injEq]at h;obtain⟨M,N⟩:=h;subst M;obtain⟨i,j⟩:=z N;constructor;refine(?_:(true&&(backToKw pos (keywordEach xs env)).all (·.1.isSome))=true);refine i.symm▸?_;rfl;refine(?_:n::(backToKw pos (keywordEach xs env)).filterMap (·.1)=_);exact j.symm▸rfl
def EI{as:List aQ}{pos:Pos}(h:o7 (backTo pos (starEach as env))=true):∃x,as=[x]/\noStar x=false:=by induction as with
 |nil=>exact nf h|cons x r=>induction r with
  |nil=>refine⟨x,rfl,?_⟩;induction x using wa<;>first|rfl|exact nf h
  |cons y r=>
   have two:∀(a b:Bool×Sem Value) l,o7 (backTo pos (a::b::l))=false:=λ a b l=>by obtain⟨D|D,D⟩:=a<;>obtain⟨D|D,D⟩:=b<;>rfl
   have one:∀(x:aQ)(r:List aQ),∃p,starEach (x::r) env=p::starEach r env:=λ x r=>by induction x using wa<;>exact⟨_,rfl⟩
   obtain⟨p,e⟩:=one x (y::r);obtain⟨T,M⟩:=one y r;rw[e,M,two]at h;exact nf h
inductive kc(J:Cx)(c:Vw)(s:Shared)(ns:List Str)(P:aw->aw->Mem->Prop)(a:Args)(s':Shared):Prop
 |mk (c':Vw) (vs ws:aw) (S:Step J c s c' s' cN) (rs:aA c' s'.heap vs a.pos) (rk:dn c' s'.heap ns ws a.kw) (p:P vs ws c'.Y):kc J c s ns P a s'
def kc.go{t:Sem Args}{ns:List Str}{P:aw->aw->Mem->Prop}{R:Args->Shared->Prop}(h:wpAny J.ay A t (kc J c s ns P) E s)(f:∀a s' G vs ws,Step J c s G s' cN->aA G s'.heap vs a.pos->dn G s'.heap ns ws a.kw->P vs ws G.Y->R a s'):wpAny J.ay A t R E s:=aW h (λ a s' ⟨G,vs,ws,S,g,o,p⟩=>f a s' G vs ws S g o p) λ D D z=>z
def ea{args kws:List ME}(z:cW J pg d args)(U:∀a,args=[.star a]->aH J pg d a)(u:mL J pg d kws){as:List aQ}{ks:List Keyword}{ns:List Str}{pos:Pos}{f:Value}{P:aw->aw->Mem->Prop}(M:fP 0 k args as=true)(N:(as.all noStar||kws.isEmpty)=true)(j:ks.map (·.arg)=ns.map some)(C:fP 0 k kws (ks.map (·.value))=true)(G:(ks.map (·.value)).all noStar=true)(w:wEs J pg d args (λ vs Y=>wEs J pg d kws (λ ws Y=>P vs ws Y) B Y) B Y)(T:At J pg d k B Y A c s env):wpAny J.ay A (evalArgs f true (backTo pos (starEach as env)) (backToKw pos (keywordEach ks env))) (kc J c s ns P) E s:=by have t:=Hf (env:=env) (pos:=pos) j;cases I:o7 (backTo pos (starEach as env))with
 |false=>refine di I t.1 (j9.go (z k as pos _ B Y A E c s env M w T) λ xs n c₁ vs S g Q D=>j9.go (u k ks pos _ B c₁.Y A E c₁ n env C G Q (T.step S)) λ ys aS c₂ ws b L q I=>⟨c₂,vs,ws,S.trans b,g.carry b.carry,?_,q⟩);refine t.2.symm▸?_;refine dn.of ?_ L;rw[<-L.length,I,<-a7 (f:=some),<-j,a7]|true=>
  obtain⟨x,rfl,H⟩:=EI I;have e:kws=[]:=by induction kws with
   |nil=>rfl|cons=>rw[show([x].all noStar)=(noStar x&&true) from rfl,H]at N;exact nf N
  subst e;have e:ks=[]:=by induction ks with
   |nil=>rfl|cons=>exact nf C
  subst e;have l:ns=[]:=by induction ns with
   |nil=>rfl|cons=>cases j
  subst l;induction args with
  |nil=>exact nf M|cons m r=>have h:=ao M;have h':=ao h.1;induction r with
   |cons=>exact nf h.2|nil=>
    have o:m.isStar=true:=by have:=h'.1;rw[H]at this;exact(SO this).elim id λ q=>nf q
    refine ME.mJ (P:=λ m=>b4 0 k m x=true->wEs J pg d [m] (λ vs Y=>wEs J pg d [] (λ ws Y=>P vs ws Y) B Y) B Y->(∀a,[m]=[.star a]->aH J pg d a)->_) o (λ a M w U=> ?_) h'.2 w U;refine qu (P:=λ x=>wpAny J.ay A (evalArgs f true (backTo pos (starEach [x] env)) (backToKw pos (keywordEach [] env))) (kc J c s [] P) E s) M λ x p M=> ?_;exact ks_lone ((U a rfl k x _ B Y A E c s env M w T).go λ y n c₁ v S r Q=>dt Q λ vs i Q=>mJ S.rel r i λ xs s' S' g=>⟨c₁,vs,[],S.trans S',g,trivial,dw vs▸(show P (vs++[]) [] c₁.Y from Q)⟩)
def cR(J:Cx):Prop:=∀(A:Around)(E:dM)(c:Vw)(s:Shared)(f:V)(args:aw)(l:Value)(xs:aI)(v:V)(σ':Mem)(Q:fA),jK 0 A->Rel J c s->aE c s.heap f l->aA c s.heap args xs->d8 c.Y f args=some (v,σ')->Q v σ'->bA J A E c s (call l xs) Q
def rj(N:cR J){f:V}{args:aw}{ns:List Str}{kws:aw}{l:Value}{xs:aI}{ks:List (Str×Value)}(U:jK d A)(G:xe A c)(R:Rel J c s)(C:aE c s.heap f l)(M:aA c s.heap args xs)(i:dn c s.heap ns kws ks)(w:fM J d f args ns kws Q c.Y):(∃k,Looks J.ay s.heap (keeperOf l) k)/\bA J A E c s (call l xs ks) Q:=by
 have own:aJ J d f args ns kws Q c.Y->(∃k,Looks J.ay s.heap (keeperOf l) k)/\bA J A E c s (call l xs ks) Q:=λ h=>have h:=h A c s l xs ks U G rfl R C M i
  ⟨h.1,wpAny_call (codeAny_mono h.2 λ r s' ⟨x,I,v,e,S,u,q⟩=>e▸⟨I,v,S,u,q⟩)⟩
 have g:tC f args kws Q c.Y->(∃k,Looks J.ay s.heap (keeperOf l) k)/\bA J A E c s (call l xs ks) Q:=by intro o;induction kws with
  |cons=>exact o.elim|nil=>induction ns with
   |cons=>induction ks<;>exact i.elim
   |nil=>induction ks with
    |cons=>exact i.elim|nil=>cases e:d8 c.Y f args with
     |none=>unfold tC at o;rw[e]at o;exact o.elim|some r=>obtain⟨v,σ'⟩:=r;unfold tC at o;rw[e]at o;refine⟨?_,N A E c s f args l xs v σ' Q (U.le (cI _)) R C M e o⟩;clear w o own R M i U G N;induction f using vC with
      |bi b=>exact(show l=_ from C)▸⟨.machine,Looks.now⟩|ty b=>exact(show l=_ from C)▸⟨.machine,Looks.now⟩
      |bm b=>exact(show l=_ from C)▸⟨.machine,Looks.now⟩|_=>exact nn e
 unfold fM at w;induction f using vC with
 |glob a=>induction d with
  |zero=>exact w.elim|succ d=>exact own w
 |ref a=>induction d with
  |zero=>exact w.elim|succ d=>exact own w
 |_=>exact g w
def s_call(G:cR J){f:ME}{args kws:List ME}(ns:List Str)(hf:aH J pg d f)(z:cW J pg d args)(I:∀a,args=[.star a]->aH J pg d a)(u:mL J pg d kws):aH J pg d (.call f args ns kws):=by intro k e Q B Y A E c s env h w T;refine eX (P:=λ e=>bA J A E c s (eval e env) Q) h λ g as ks p h=> ?_;have U:=ao h;have C:=ao U.1;have j:=ao C.1;have N:=ao j.1;have M:=ao N.1;have q:=ao M.1;refine bU (P:=λ g=>b4 0 k f g=true->bA J A E c s (eval (.Call g as ks p) env) Q) q.1 (λ x np D q=> ?_) q.2;show wpAny _ _ (eval (.Name x np) env>>=λ g=>callWith p g [] (backTo p (starEach as env)) (backToKw p (keywordEach ks env))) _ _ _;refine ag ((hf k (.Name x np) _ B Y A E c s env q w T).go λ v n c₁ i S y r=>bM (kc.go (ea z I u M.2 N.2 (ae j.2) C.2 U.2 r (T.step S)) λ a H c₂ vs ws b m o L=> ?_));have l:=rj (E:=E) G T.rm ((T.step S).step b).sk b.rel (y.carry b.carry) m o L;exact⟨l.1,l.2.after (S.trans b)⟩
def rp:Slot "bytes" "translate" "bytes.translate":=kN "bytes" "translate"
def zE:typeOf (.builtin "bytes.translate")=pure (.type "method_descriptor"):=Gf
def tT:Slot "bytes" "join" "bytes.join":=kN "bytes" "join"
def BF:typeOf (.builtin "bytes.join")=pure (.type "method_descriptor"):=Gf
def xD:findCls [] (.type "bytes") (.type "type") "maketrans"=some (.val (.builtin "bytes.maketrans")):=by kernel_rfl
def xE{y:Sem Bool}{Q:Value×aI->Shared->Prop}(q:Q (.builtin "bytes.maketrans",[]) {s with toks:=s.toks+1}):wpAny J.ay A (getMethod (.type "bytes") "maketrans" y) Q E s:=by
 have X:Frag.In [] s.heap:=λ a o h=>by exact nn h
 have m:opaqueClassAbove (.type "bytes")=pure none:=by delta opaqueClassAbove;dsimp only;refine(show Manifest.isStub "bytes"=false by decide+kernel).symm▸?_;rfl
 have I:typeOf (.type "bytes")=pure (.type "type"):=by first|rfl|kernel_rfl
 have G:Looks J.ay s.heap (typeOf (.type "bytes")) (.type "type"):=Looks.of_pure I;have U:findIn [] (.type "type") "__getattribute__"=some (some (.builtin "type.__getattribute__")):=type_tga;unfold getMethod specialOf;refine ag (ag (G.here ((looks_findIn X U).here ?_)));dsimp only;refine(ar canon_tga).symm▸?_;refine ag (aW (Q:=λ v=>Q (v,[])) (E:=E) ?_ (λ D D z=>ax z) λ D D z=>z);have w:Looks J.ay s.heap (opaqueClassAbove (.type "bytes")) none:=Looks.of_pure m;refine cls_open X w G U (looks_hook X (r:=none) (by rfl)) (by skip;rfl) xD ?_;exact ax (ax q)
noncomputable def Ue:Nat->String
 |0=>"list"|1=>"dict"|2=>"set"|3=>"str"|_=>"bytes"
def QU{t m:Nat}{v:V}{r:V×aw}(I:t<5)(h:Br t v m=some r):∃b:Bm,r=(.bm b,[v])/\Slot (Ue t) (bf m) b.id/\typeOf (.builtin b.id)=pure (.type "method_descriptor"):=by obtain⟨b,U,rfl⟩:=dR.mp h;have q:=ao (List.find?_some (p:=λ b:Bm=>Nat.beq b.ty t&&Nat.beq b.no m) U);rw[<-Nat.eq_of_beq_eq_true q.1]at I⊢;refine(Nat.eq_of_beq_eq_true q.2)▸?_;refine⟨b,rfl,?_⟩;clear h U q;induction b with
 |jm=>exact⟨F.slot_list_append,F.type_list_append⟩|yY=>exact⟨F.slot_list_pop,F.type_list_pop⟩
 |jo=>exact⟨F.slot_list_extend,F.type_list_extend⟩|lR=>exact⟨F.slot_list_clear,F.type_list_clear⟩
 |w6=>exact⟨F.slot_dict_get,F.type_dict_get⟩|yZ=>exact⟨F.slot_set_add,F.type_set_add⟩
 |ie=>exact⟨F.slot_str_encode,F.type_str_encode⟩|lS=>exact⟨F.slot_str_count,F.type_str_count⟩
 |qZ=>exact⟨F.slot_str_join,F.type_str_join⟩|d4=>exact⟨rp,zE⟩
 |jq=>exact⟨FB.slot_bytes_decode,FB.type_bytes_decode⟩|q4=>exact⟨tT,BF⟩
 |dg=>exact absurd I (iI 5)
def o8{v f:V}{first:aw}{m t:Nat}{x:Value}{z:Sem Bool}{Q:Value×aI->Shared->Prop}(I:t<5)(r:aE c s.heap v x)(h:Br t v m=some (f,first))(u:s.TypeIs x (Ue t))(hp:PlainAttrs (Ue t))(hd:∀a,x= .ref a->∃o,s.heap.get? a=some o/\o.dict=none)(R:Rel J c s)(q:∀y ys G s',Step J c s G s' cN->G.Y=c.Y->aE G s'.heap f y->aA G s'.heap first ys->Q (y,ys) s'):wpAny J.ay A (getMethod x (bf m) z) Q E s:=by obtain⟨b,e,M,N⟩:=QU I h;obtain⟨rfl,rfl⟩:=dX e;exact getMethod_builtin u hp M N hd (q _ _ c s (.refl R) rfl rfl ⟨r,trivial⟩)
def qz(ok:bp J)(U:cB J pg)(R:Rel J c s){v f:V}{first:aw}{m:Nat}{x:Value}{w:Sem Bool}{Q:Value×aI->Shared->Prop}(r:aE c s.heap v x)(h:kP pg c.Y v m=some (f,first))(q:∀y ys G s',Step J c s G s' cN->G.Y=c.Y->aE G s'.heap f y->aA G s'.heap first ys->Q (y,ys) s'):wpAny J.ay A (getMethod x (bf m) w) Q E s:=by induction v using vC with
 |ref i=>have g:aE c s.heap (.ref i) x:=r;obtain⟨hi,rfl⟩:=r;have d:=R.obj i hi;have h:j7 pg (c.Y.f i) (.ref i) m=some (f,first):=h;generalize e:c.Y.f i=o at d h;induction o with
  |list vs=>obtain⟨D,p,⟨n,M⟩,D⟩:=d;exact o8 (t:=0) dD g h ⟨_,M,rfl⟩ F.plainAttrs_list (λ a z=>by obtain rfl:=sV z;exact⟨_,M,rfl⟩) R q
  |dict bJ ep=>obtain⟨D,T,⟨o,es,b,L,D⟩,D⟩:=d;exact o8 (t:=1) dD g h ⟨_,b,L.1⟩ F.plainAttrs_dict (λ a z=>by obtain rfl:=sV z;exact⟨_,b,L.2.1⟩) R q
  |set xs=>obtain⟨D,⟨o,es,ep,t,b,L,D⟩,D⟩:=d;exact o8 (t:=2) dD g h ⟨_,b,L.1⟩ F.plainAttrs_set (λ a z=>by obtain rfl:=sV z;exact⟨_,b,L.2.1⟩) R q
  |inst C as=>have h:=Qz h;have ic:=U.inst C h.1;by_cases hm:m=12;subst hm;obtain⟨u,H,N⟩:=vV.mp h.2;obtain⟨j,rfl,N⟩:=Bs N;obtain⟨rfl,rfl⟩:=dX (aN N);obtain⟨dd,es,ep,D,D,D,D,I⟩:=inst_at R hi e;refine(show bf 12=attrName 4 by decide+kernel).symm▸?_;apply method_usual (R.K ok) I ic.ga ic.gk (ic.B 4 dD) rfl;exact(tm (Q:=λ u Y=>u= .ref j/\Y=c.Y) R ok hi e ic (by decide:4<9) H ⟨rfl,rfl⟩).go λ y s' G u S k e=>q y [] G s' S e.2 (e.1▸k) trivial;have N:=h.2;rw[au hm]at N;obtain⟨fa,hf,N⟩:=dR.mp N;obtain⟨rfl,rfl⟩:=dX N;have P:=U.a9 C m fa hf h.1;exact Ew R ok hi e ic P.1 P.2.1 P.2.2.1 (q _ _ c s (.refl R) rfl rfl ⟨g,trivial⟩)
  |_=>exact nn h
 |str l=>exact o8 (t:=3) dD r h (by obtain⟨t,rfl⟩:=r;rfl) F.plainAttrs_str (λ a z=>by obtain⟨t,rfl⟩:=r;exact Value.noConfusion z) R q|bytes l=>exact o8 (t:=4) dD r h (by obtain⟨D,t,rfl⟩:=r;rfl) FB.plainAttrs_bytes (λ a z=>by obtain⟨D,t,rfl⟩:=r;exact Value.noConfusion z) R q
 |ty t=>have h:(if t= .bytes/\m=11 then some (V.bm .dg,([]:aw))else none)=some (f,first):=h;by_cases hm:t= .bytes/\m=11;rw[ar hm]at h;obtain⟨rfl,rfl⟩:=dX (aN h);obtain⟨rfl,rfl⟩:=hm;exact(show x=_ from r)▸xE (q _ _ c _ (Step.toks R _) rfl rfl trivial);rw[au hm]at h;exact nn h
 |_=>exact nn h
def KW(ok:bp J)(h:cB J pg)(R:Rel J c s){i C fa m:Nat}{as:List (Nat×V)}{b:Bool}{Q:dM}(hi:i<c.Y.n)(e:c.Y.f i= .inst C as)(w:pg.insts.contains C=true)(hm:pg.a9 C m=some fa)(q:∀s',Step J c s c s' cN->s'.heap.get? s.heap.objs.size=some (methodObj (.ref fa) (.ref (c.ρ i)))->Q (.ref s.heap.objs.size) s'):wpAny J.ay A (getAttr (.ref (c.ρ i)) (bf m) b) Q E s:=by
 obtain⟨M,N,j,f,U,l,G⟩:=h.a9 C m fa hm w;have ic:=h.inst C w;obtain⟨d,es,ep,D,D,D,r,I⟩:=inst_at R hi e;have fn:es.find? (·.key.isStr (bf m))=none:=by rw[List.find?_eq_none];intro u L;obtain⟨k,t,H,z⟩:=r.keys u L;refine z.symm▸?_;refine(?_:¬(attrName k==bf m)=true);simp[j k H]
 have y:lookIn (bf m) (dictOf es ep)=some none:=by unfold lookIn dictOf;simp[fn,r.noRef]
 refine get_bind (R.K ok) I ic.ga (findObj_fn ic.hd M U l G y) ic.gk (wpAny_call (fn_get (s:={s with toks:=s.toks+1}) (R.K ok) N (handed_on rfl ?_)));exact q _ (R.push _ _) (bS _ rfl)
def tU{xs:List aQ}{pos:Pos}:(backTo pos (starEach xs env)).all (!·.1)=xs.all noStar:=by induction xs with
 |nil=>rfl|cons x xs z=>
  have h:(backTo pos (starEach (x::xs) env)).all (!·.1)=(noStar x&&(backTo pos (starEach xs env)).all (!·.1)):=by induction x using wa<;>rfl
  refine h.symm▸z.symm▸?_;rfl
def tV{a:Nat}{args:aw}{ns:List Str}{kws:aw}(w:fM J d (.glob a) args ns kws Q Y):aJ J d (.glob a) args ns kws Q Y:=by induction d with
 |zero=>exact w.elim|succ d=>exact w
def dn.none{ws:aw}{ks:List (Str×Value)}(r:dn c h [] ws ks):dn c h [] [] ks:=by induction ws with
 |nil=>exact r|cons=>induction ks<;>exact r.elim
def mO{o:aQ}{m:Nat}{as:List aQ}{U p:Pos}(h:d9 o=true):eval (.Call (.Attribute o (bf m) U) as [] p) env=(eval o env>>=λ A=>standAt U.atName>>=λ D=>methodCall o (bf m) U p env A (as.length+0) (backTo p (starEach as env)) (backToKw p [])):=by show(attributeBase o (bf m) env (eval o env)>>=_)=_;refine(oZ h).symm▸?_;rfl
def fQ{as:List aQ}{p:Pos}:methodCallForm (as.length+0) (backTo p (starEach as env)) (backToKw p [])=(as.all noStar&&true&&decide (as.length<30)):=by delta methodCallForm;refine tU.symm▸?_;rfl
def Og(ok:bp J)(G:cB J pg)(I:cR J){o:ME}(m:Nat){args:List ME}(i:aH J pg d o)(z:cW J pg d args)(u:∀a,args=[.star a]->aH J pg d a):aH J pg d (.a9 o m args):=by intro k e Q B Y A E c s env h w T;refine eX (P:=λ e=>bA J A E c s (eval e env) Q) h λ g as ks p h=> ?_;have h:=ao h;refine(lq h.1).symm▸?_;refine bI (P:=λ g=>bA J A E c s (eval (.Call g as [] p) env) Q) h.2 λ L name ap h=> ?_;have t:=ao h;have U:=ao t.1;have C:=ao U.1;have j:=ao C.1;have N:=ao j.1;have M:=ao N.1;refine(bc M.2).symm▸?_;refine(mO M.1).symm▸?_;refine ag ((i k L _ B Y A E c s env j.2 w T).go λ ov aq c₁ v S r q=>ag (cP (dt q λ x hf q=> ?_)));obtain⟨f,first⟩:=x;delta methodCall;refine fQ.symm▸U.2.symm▸t.2.symm▸?_;refine ag (bB ?_);refine qz ok G S.rel r hf λ y ys c₂ aS b H r1 r2=> ?_;rw[<-H]at q;dsimp only;delta methodCallPos;rw[ar (by simp[ae N.2])];refine ag (ax (bM (kc.go (ea (ks:=[]) (ns:=[]) (P:=λ vs ws Y=>fM J d f (first++vs) [] [] Q Y) z u jz C.2 (by simp) rfl rfl rfl q (T.step (S.trans b))) λ a bw cj vs ws n rs rk cY=> ?_)));have l:=rj (E:=E) I T.rm (T.step ((S.trans b).trans n)).sk n.rel (r1.carry n.carry) ((r2.carry n.carry).append rs) rk.none cY;exact⟨l.1,l.2.after ((S.trans b).trans n)⟩
def KY(ok:bp J)(N:cB J pg)(hB:cR J){o:ME}(m:Nat){args:List ME}(H:aH J pg d o)(ha:cW J pg d args)(mh:∀a,args=[.star a]->aH J pg d a):aH J pg d (.nE o m args):=by intro k e Q B Y A E c s env h w T;refine eX (P:=λ e=>bA J A E c s (eval e env) Q) h λ g as ks p h=> ?_;have h:=ao h;refine(lq h.1).symm▸?_;refine bI (P:=λ g=>bA J A E c s (eval (.Call g as [] p) env) Q) h.2 λ o' name ap h=> ?_;have G:=ao h;have y:=ao G.1;have l:=ao y.1;have I:=ao l.1;refine(bc I.2).symm▸?_;refine(mO I.1).symm▸?_;refine ag ((H k o' _ B Y A E c s env l.2 w T).go λ ov n c₁ v S r b=>ag (cP (rQ (P:=λ v=>aE c₁ n.heap v ov->_) b (λ i b r=>instP b λ C MG e b=>dt b.2 λ fa hm bQ=> ?_) r)));refine r.2.symm▸?_;delta methodCall;refine fQ.symm▸(jJ G.2).symm▸?_;refine ag (bB ?_);refine ag (KW ok N S.rel r.1 e b.1 hm λ aS U hq=>ax ?_);dsimp only;delta methodCallPos;rw[ar (by rfl)];refine ag (ax (bM (kc.go (ea (ks:=[]) (ns:=[]) (P:=λ vs ws Y=>fM J d (.glob fa) (.ref i::vs) [] [] Q Y) ha mh jz y.2 (by simp) rfl rfl rfl bQ (T.step (S.trans U))) λ a j cj vs ws f rs rk cY=> ?_)));have u:j.heap.get? n.heap.objs.size=some (methodObj (.ref fa) (.ref (c₁.ρ i))):=f.kept _ _ hq (λ t=>mF S.rel (.inl t)) (λ z=>z) (q5 S.rel S.rel.size) λ q=>mF S.rel (.inr (.inr q));have ev:=tV cY A cj j (.ref fa) (.ref (c₁.ρ i)::a.pos) a.kw T.rm (T.step ((S.trans U).trans f)).sk rfl f.rel rfl ⟨aE.carry (v:= .ref i) (U.trans f).carry ⟨r.1,rfl⟩,rs⟩ rk.none;refine⟨?_,wpAny_call (method_call u (codeAny_mono ev.2 λ r s' ⟨x,c',v,e,S',rv,q⟩=>e▸⟨c',v,((S.trans U).trans f).trans S',rv,q⟩))⟩;obtain⟨k',D,L⟩:=keeps_M (M:=model J.prog J.w) (N.a9 C m fa hm b.1).2.2.2.1 j.heap ⟨u,f.rel.K ok⟩;exact⟨k',L⟩
def tW(J:Cx)(pg:Pg)(d:Nat)(m:Option ME):Prop:=∀(k:CC)(e:Option aQ)(Q:fA)(B:aw)(Y:Mem)(A:Around)(E:dM)(c:Vw)(s:Shared)(env:Env),N0 k m e=true->wO J pg d m Q B Y->At J pg d k B Y A c s env->bA J A E c s (evalPart e env) Q
def KZ:tW J pg d none:=by intro k e Q B Y A E c s env h w T;induction e with
 |none=>exact bA.val (v:= .none) T.rl rfl (by exact T.sg▸w)|some _=>exact nf h
def K0{m:ME}(hm:aH J pg d m):tW J pg d (some m):=by intro k e Q B Y A E c s env h w T;induction e with
 |none=>exact nf h|some e=>exact hm k e Q B Y A E c s env h w T
def tX{v:V}{l:Option Int}{x:Value}{P:Prop}(e:iS v=some l)(r:aE c h v x)(f:∀p:Option (Int×Tok),p.map (·.1)=l->x=partValue p->IsPart x l->P):P:=by induction v using vC with
 |none=>obtain rfl:=aN e;exact f none rfl r (by exact(show x=_ from r)▸.none)
 |int i=>obtain rfl:=aN e;obtain⟨t,rfl⟩:=r;exact f (some (i,t)) rfl rfl (.int i t)
 |_=>exact nn e
def rq{o v:V}{l h:Option Int}(e:(match bD Y o with|some vs=>if decide (vs.length<=1000000)then some (V.list (cg vs l h))else none|none=>none)=some v):∃vs,bD Y o=some vs/\vs.length<=1000000/\v= .list (cg vs l h):=by obtain⟨vs,I,e⟩:=q9 e;have e:=bb e;exact⟨vs,I,ae e.1,e.2.symm⟩
def xF{o v:V}{l h:Option Int}{P:Prop}(e:qo Y o l h=some v)(f:∀x,o= .str x->x.length<=1000000->v= .str (cg x l h)->P)(g:∀vs,bD Y o=some vs->vs.length<=1000000->v= .list (cg vs l h)->P):P:=by induction o using vC with
 |str x=>have e:=bb e;exact f x rfl (ae e.1) e.2.symm|ref i=>obtain⟨vs,a,b,d⟩:=rq (o:= .ref i) e;exact g vs a b d
 |list i=>obtain⟨vs,a,b,d⟩:=rq (o:= .list i) e;exact g vs a b d
 |_=>exact nn e
def K1{o:ME}{lo hi:Option ME}(n:aH J pg d o)(C:tW J pg d lo)(hh:tW J pg d hi):aH J pg d (.slice o lo hi):=by intro k e Q B Y A E c s env h w T;refine fu (P:=λ e=>bA J A E c s (eval e env) Q) h λ z i p h=> ?_;refine Kz (P:=λ i=>bA J A E c s (eval (.Subscript z i p) env) Q) h λ l u st p' h=> ?_;have h:=ao h;have N:=ao h.1;have G:=ao N.1;refine(qY.mp G.1).symm▸?_;refine oU (P':=λ D D D=>True) (n k z _ B Y A E c s env G.2 w T) λ x v c₁ aq S r aG=>wpAny_Slice ((C k l _ B c₁.Y A E c₁ aq env N.2 aG (T.step S)).go λ y aS c₂ vl b iP bQ=>(hh k u _ B c₂.Y A E c₂ aS env h.2 bQ ((T.step S).step b)).go λ U j cj vh g te f=> ?_);refine dt f λ l' e1 f=>dt f λ h' e2 f=>dt f λ res e3 f=>ax ?_;have q:=g.rel.push {cls:= .type "slice",data:= .fields #[y,U,.none]} j.toks;refine⟨cj,(b.trans g).trans q,?_⟩;refine tX e1 iP λ p1 q1 XU Ug=>tX e2 te λ p2 q2 XW Uh=> ?_;have I:(j.heap.push {cls:= .type "slice",data:= .fields #[y,U,.none]}).IsSliceOf j.heap.objs.size y U .none:=⟨_,bS _ rfl,rfl,rfl⟩;have m:=r.carry ((b.trans g).trans q).carry;refine xF e3 (λ xs e L M=> ?_) λ vs hv L M=> ?_;rw[e]at m;rw[M,<-q1,<-q2]at f;obtain⟨t,rfl⟩:=m;exact⟨wo,Er (lo:=p1) (hi:=p2) q.rel L (let⟨ob,g1,g2,g3⟩:=I;⟨ob,g1,g2,by refine g3.symm▸XU.symm▸XW.symm▸?_;rfl⟩) f⟩;rw[M]at f;obtain⟨a,aM,rfl,H,rs⟩:=cu q.rel m hv;exact⟨nR H,slice_list q.rel H rs L I Ug Uh f⟩
def CC.Hg{x:Str}{i:Nat}(h:k.iV x i=true):k.var x i=true/\(k.kd.lookup x=some .local\/k.kd.lookup x=some .cell)/\∀p∈k.nm,p.2=i->p.1=x:=by unfold CC.iV at h;simp only[qX,Bool.or_eq_true,cZ,fE,Bool.not_eq_true',decide_eq_false_iff_not]at h;exact⟨h.1.1,h.1.2,λ p hp e=>(h.2 p hp).resolve_left λ n=>n e⟩
def lookup_mem{α:Type}{l:List (Str×α)}{x:Str}{i:α}(h:l.lookup x=some i):(x,i)∈l:=by induction l with
 |nil=>exact nn h|cons p l z=>
  obtain⟨y,j⟩:=p;rw[fm]at h;by_cases e:x==y;rw[e]at h;have:x=y:=by exact ae e
  obtain rfl:=aN h;subst this;exact gM;have M:(x==y)=false:=by exact(qc _).mp e
  rw[M]at h;exact kI _ (z h)
def dP{x:Str}{i:Nat}{v:V}{u:Value}{A A':Around}{Q:Unit->Shared->Prop}(T:At J pg d k B Y A c s env)(h:k.iV x i=true)(r:aE c s.heap v u)(q:∀s',Step J c s c s' (Eh env x)->At J pg d k (B.set i v) Y A c s' env->Q () s'):wpAny J.ay A' (storeName env x u) Q E s:=by
 obtain⟨G,H,l⟩:=CC.Hg h;obtain⟨hv,C,D,D⟩:=CC.tI G;have L:env.kindOf x=some .local\/env.kindOf x=some .cell:=H.imp (T.kd.l x) (T.kd.c x);refine wg T.en.kind T.en.H L λ h' tk M f m g hsz=> ?_;have S:Step J c s c {s with heap:=h',toks:=tk} (Eh env x):=T.rl.Bf (Eh env x) (λ b o e n=>by exact g b n▸e)
  (λ b U=>⟨(T.rl.nO (T.en.own b U.own)).1,(T.rl.nO (T.en.own b U.own)).2.1,(T.rl.nO (T.en.own b U.own)).2.2.1,T.en.own b U.own⟩) (λ b D U=>by
   rcases U with⟨D,rfl⟩|⟨L,I⟩
   ·obtain⟨o,es,ep,e,hd,D⟩:=M.loc
    exact⟨o,e,λ vs q=>by rw[hd]at q;cases q⟩
   ·obtain⟨a,v,p,⟨o,e,hd⟩,D⟩:=M.cell x L
    rw[I]at p;obtain rfl:=aN p
    exact⟨o,e,λ vs q=>by rw[hd]at q;cases q⟩) (bO hsz.symm) rfl rfl
 refine q _ S ⟨T.rm,T.sg,S.rel,⟨T.en.kind,T.en.glob,T.en.Ny,M,T.en.own,λ y a I=>⟨(T.en.seen y a I).1,(T.en.seen y a I).2.1,by refine(?_:a<h'.objs.size);exact hsz▸(T.en.seen y a I).2.2⟩,T.en.SP⟩,T.kd,λ y j w I Ui t=> ?_,T.gg,T.sk⟩;by_cases e:j=i;subst e;have:y=x:=l _ (lookup_mem I) rfl;subst this;have hw:w=v:=by rw[List.getElem?_set]at t;simp only[if_true]at t;split at t;exact(aN t).symm;exact nn t
 subst hw;exact .inr ⟨u,f,r.carry S.carry⟩;have jL:y≠x:=by rintro rfl;rw[C]at I;exact e (aN I).symm
 rw[List.getElem?_set_ne (λ z=>e z.symm)]at t;rcases T.fv y j w I Ui t with z|⟨N,V',r'⟩;exact .inl z;exact .inr ⟨N,m y N jL V',r'.carry S.carry⟩
def Step.fresh{c c₁ c₂:Vw}{s f U:Shared}{W W':Addr->Prop}(S:Step J c s c₁ f W)(n:Step J c₁ f c₂ U W')(h:∀b,W' b->W b\/s.heap.objs.size<=b):Step J c s c₂ U W where
 rel:=n.rel
 carry:=S.carry.trans n.carry S.size
 x:=λ b h=>n.x b (S.x b h)
 ta:=λ b h=>by rcases n.ta b h with h|h;exact S.ta b h;exact .inr (aa S.size h)
 y:=λ b h=>n.y b (S.y b h)
 z:=λ b h=>n.z b (S.z b h)
 qi:=λ b h=>by rcases n.qi b h with h|h;exact S.qi b h;exact .inr (aa S.size h)
 kept:=λ b o e nt E np l=>n.kept b o (S.kept b o e nt E np l) (λ t=>nt (S.carry.old b (b6 e) t)) (λ w=>by
  rcases h b w with z|z
  ·exact E z
  ·exact aD z (b6 e)) np λ q=>by
  rcases S.qi b q with q|q;exact l q;exact aD q (b6 e)
 j5:=λ b o e M E=>by
  obtain⟨L,a⟩:=S.j5 b o e M E;obtain⟨p,d⟩:=n.j5 b _ a (S.z b M) (λ w=>by
   rcases h b w with z|z
   ·exact E z
   ·exact aD z (b6 e))
  exact⟨p,d⟩
 size:=aa S.size n.size
def Hi(i:Bool)(c:Vw)(h:Heap)(v:V)(x:Value):Prop:=match i with
 |false=>aE c h v x|true=>∃ws T vals,v= .tuple ws/\x= .ref T/\h.IsTuple T vals/\aA c h ws vals.toList
noncomputable def K2(v:Bool):aQ->Bool
 | .Name .. => !v| .Tuple .. =>v
 |_=>false
structure dE(J:Cx)(A:Around)(pr:Bool)(I:Addr)(ys:List Addr)(vs:aw)(g:Mem->Prop)(St:Nat->Vw->Heap->Prop)(Md:Nat->Value->Vw->Heap->Prop):Prop where
 keep:∀i c s c' s' W,Rel J c s->(∀b∈ys,b∈c.y)->St i c s.heap->Step J c s c' s' W->(∀b∈ys,¬W b)->St i c' s'.heap
 item:∀i c s(Q:Option Value->Shared->Prop)(E:dM),i<vs.length->Rel J c s->(∀b∈ys,b∈c.y)->St i c s.heap->g c.Y->(∀x s',Step J c s c s' (·∈ys)->Md i x c s'.heap->Q (some x) s')->wpAny J.ay A (pyNext (.ref I)) Q E s
 go:∀i v iV x c s(Q:Unit->Shared->Prop)(E:dM),vs[i]? =some v->K2 pr iV=true->Rel J c s->(∀b∈ys,b∈c.y)->Md i x c s.heap->(∀s',Step J c s c s' (·∈ys)->Hi pr c s'.heap v x->St (i+1) c s'.heap->Q () s')->wpAny J.ay A (letOwnedTupleGo iV (.ref I) x) Q E s
 done:∀c s(Q:Option Value->Shared->Prop)(E:dM),Rel J c s->(∀b∈ys,b∈c.y)->St vs.length c s.heap->g c.Y->(∀s',Step J c s c s' (·∈ys)->Q none s')->wpAny J.ay A (pyNext (.ref I)) Q E s
 self:∀i c s(Q:dM)(E:dM),St i c s.heap->Q (.ref I) s->wpAny J.ay A (pyIter (.ref I)) Q E s
def kT(R:Rel J c s){ys:List Addr}(T:∀b∈ys,b∈c.y){h':Heap}{tk:Nat}(u:∀b o,b∉ys->s.heap.get? b=some o->h'.get? b=some o)(H:s.heap.objs.size<=h'.objs.size):Step J c s c {s with heap:=h',toks:=tk} (·∈ys):=R.other (·∈ys) (λ b o e z=>u b o z e) (λ b U=>⟨(R.d5 b (T b U)).1,(R.d5 b (T b U)).2.2.1,(R.d5 b (T b U)).2.2.2,T b U⟩) H rfl rfl
def xG(c:Vw)(h:Heap)(b:Addr):Prop:=¬c.N b/\∃o,h.get? b=some o/\(o.cls= .type "list"\/o.cls= .type "tuple")
def xG.step{c G:Vw}{s s':Shared}{W:Addr->Prop}{b:Addr}(f:xG c s.heap b)(S:Step J c s G s' W):xG G s'.heap b/\∀o,s.heap.get? b=some o->s'.heap.get? b=some o:=by obtain⟨nt,o,e,w⟩:=f;have M:=S.carry.seq b o e nt w;exact⟨⟨λ t=>nt (S.carry.y0 b (b6 e) t),o,M,w⟩,λ z q=>by rw[e]at q;obtain rfl:=aN q;exact M⟩
def SeqAt.Oh{T:String}{a:Addr}{f:aI}(s:SeqAt h T a f)(G:T="list"\/T="tuple")(nt:¬c.N a):xG c h a:=by obtain⟨n,e⟩:=s;exact⟨nt,_,e,by rcases G with rfl|rfl<;>simp⟩
def Dg{m:aQ}{I:Addr}{x:Value}{Q:Unit->Shared->Prop}(u:K2 false m=true)(q:Q () s):wpAny J.ay A (letOwnedTupleGo m (.ref I) x) Q E s:=by induction m using wa<;>first|exact nf u|exact ax q
def dE.walks{I:Addr}{fp wr ys:List Addr}{n:Nat}{P:Nat->Value->Prop}{St:Nat->Heap->Prop}(W:Walks J.prog J.w A I fp wr n P St)(t:∀b∈wr,b∈ys)(vs:aw)(p:n=vs.length):dE J A false I ys vs (λ D=>True) (λ i c h=>St i h/\(∀j x v,P j x->vs[j]? =some v->aE c h v x)/\∀b∈fp,b∈ys\/xG c h b) (λ i x c h=>P i x/\St (i+1) h/\(∀j x v,P j x->vs[j]? =some v->aE c h v x)/\∀b∈fp,b∈ys\/xG c h b)where
 keep:=λ i c s G s' W' R T ⟨st,hp,hf⟩ S z=>by refine⟨W.frame i _ _ st λ b U o e=> ?_,λ j x v q e=>(hp j x v q e).carry S.carry,λ b U=>(hf b U).imp id λ f=>(f.step S).1⟩;rcases hf b U with a|f;exact S.j6 R (T b a) (z b a) e;exact(f.step S).2 o e
 item:=λ i c s Q E hi R T ⟨st,hp,hf⟩ D k=>by refine aO (λ g=>W.item i s _ g (p▸hi) st λ v h' tk M l u H=> ?_);have S:=kT (tk:=tk) R T (λ b o N e=>u b o (λ q=>N (t b q)) e) H;exact k v _ S ⟨M,l,λ j x w q e=>(hp j x w q e).carry S.carry,λ b U=>(hf b U).imp id λ f=>(f.step S).1⟩
 go:=λ i v m x c s Q E d L R T ⟨M,st,hp,hf⟩ k=>Dg L (k s (.refl R) (hp i x v M d) ⟨st,hp,hf⟩)
 done:=λ c s Q E R T ⟨st,hp,hf⟩ D k=>by refine aO (λ g=>W.done s _ g (p▸st) λ h' tk u H=> ?_);exact k _ (kT (tk:=tk) R T (λ b o N e=>u b o (λ q=>N (t b q)) e) H)
 self:=λ i c s Q E st q=>W.self i s Q E st.1 q
def aA.at{vs:aw}{xs:aI}{i:Nat}{v:V}{x:Value}(r:aA c h vs xs)(n:vs[i]? =some v)(L:xs[i]? =some x):aE c h v x:=by obtain⟨y,M,N⟩:=r.get n;rw[M]at L;obtain rfl:=aN L;exact N
def dE.Oi{I:Addr}{fp wr ys:List Addr}{n:Nat}{P:Nat->Array Value->Prop}{St:Nat->Heap->Prop}{m:Nat->Addr->Heap->Prop}(W:WalksU J.prog J.w A I fp wr n P St m)(l:∀b∈wr,b∈ys)(vs:aw)(p:n=vs.length):dE J A true I ys vs (λ D=>True) (λ i c h=>St i h/\(∀j x v,P j x->vs[j]? =some v->∃ws,v= .tuple ws/\aA c h ws x.toList)/\∀b∈fp,b∈ys\/xG c h b) (λ i x c h=>(∃T vals,x= .ref T/\P i vals/\h.IsTuple T vals/\m i T h)/\(∀j x v,P j x->vs[j]? =some v->∃ws,v= .tuple ws/\aA c h ws x.toList)/\∀b∈fp,b∈ys\/xG c h b)where
 keep:=λ i c s c' s' W' R t ⟨st,hp,hf⟩ S r=>by refine⟨W.frame i _ _ st λ b U o e=> ?_,λ j x v q e=>let⟨ws,M,N⟩:=hp j x v q e;⟨ws,M,N.carry S.carry⟩,λ b U=>(hf b U).imp id λ f=>(f.step S).1⟩;rcases hf b U with a|f;exact S.j6 R (t b a) (r b a) e;exact(f.step S).2 o e
 item:=λ i c s Q E hi R t ⟨st,hp,hf⟩ D G=>by refine aO (λ g=>W.item i s _ g (p▸hi) st λ T vals h' tk C z hm u H=> ?_);have S:=kT (tk:=tk) R t (λ b o L e=>u b o (λ q=>L (l b q)) e) H;exact G _ _ S ⟨⟨T,vals,rfl,C,z,hm⟩,λ j x w q e=>let⟨ws,M,N⟩:=hp j x w q e;⟨ws,M,N.carry S.carry⟩,λ b U=>(hf b U).imp id λ f=>(f.step S).1⟩
 go:=λ i v iV x c s Q E hv y R t ⟨⟨T,vals,hx,C,z,hm⟩,hp,hf⟩ G=>by subst hx;induction iV using wa with
  |Tuple elts k pos=>refine aO (λ g=>W.go elts k pos i T s _ g hm λ h' st u H=> ?_);have S:=kT (tk:=s.toks) R t (λ b o L e=>u b o (λ q=>L (l b q)) e) H;have d:∀j x v,P j x->vs[j]? =some v->∃ws,v= .tuple ws/\aA c h' ws x.toList:=λ j x w q e=>let⟨ws,M,N⟩:=hp j x w q e;⟨ws,M,N.carry S.carry⟩;obtain⟨ws,M,N⟩:=d i vals v C hv;exact G _ S ⟨ws,T,vals,M,rfl,z.at λ o e=>u T o (W.apart i T _ hm) e,N⟩ ⟨st,d,λ b U=>(hf b U).imp id λ f=>(f.step S).1⟩
  |_=>first|exact nf y|exact nn y|subst y
 done:=λ c s Q E R t ⟨st,hp,hf⟩ D G=>by refine aO (λ g=>W.done s _ g (p▸st) λ h' tk u H=> ?_);exact G _ (kT (tk:=tk) R t (λ b o L e=>u b o (λ q=>L (l b q)) e) H)
 self:=λ i c s Q E st q=>W.self i s Q E st.1 q
inductive MO(J:Cx)(A:Around)(c:Vw)(s:Shared)(I a:Addr)(ws:aw)(It:Heap->Addr->Nat->Prop):Prop
 |mk (fp:List Addr) (P:Nat->Value->Prop) (St:Nat->Heap->Prop) (n:Nat) (W:Walks J.prog J.w A I fp [I] n P St) (hn:n=ws.length) (st:∀j,It s.heap a j->St j s.heap) (ts:∀j h,St j h->It h a j) (r:∀(j:Nat) x v,P j x->ws[j]? =some v->aE c s.heap v x):MO J A c s I a ws It
def dE.rests{I:Addr}{i:Nat}{ws:aw}{g:Mem->Prop}{It:Heap->Addr->Nat->Prop}(at':∀h h' a j,(∀o,h.get? I=some o->h'.get? I=some o)->It h a j->It h' a j)(R:∀c s,Rel J c s->i<c.Y.n->I∈c.y->g c.Y->MO J A c s I (c.ρ i) ws It)(self:∀a j(s:Shared)(Q:dM)(E:dM),It s.heap a j->Q (.ref I) s->wpAny J.ay A (pyIter (.ref I)) Q E s):dE J A false I [I] ws g (λ j c h=>It h (c.ρ i) j/\i<c.Y.n/\I∈c.y) (λ j x c h=>(∀v,ws[j]? =some v->aE c h v x)/\It h (c.ρ i) (j+1)/\i<c.Y.n/\I∈c.y)where
 keep:=λ j c s G s' W' R T st S z=>⟨by
  rw[S.carry.ρ i st.2.1]
  exact at' _ _ _ _ (λ o e=>S.j6 R st.2.2 (z I (.head _)) e) st.1,ai st.2.1 S.carry.n,S.y I st.2.2⟩
 item:=λ j c s Q E t r T st g k=>by obtain⟨fp,P,St,n,W,rfl,M,N,l⟩:=R c s r st.2.1 st.2.2 g;refine aO (λ f=>W.item j s _ f t (M j st.1) λ v h' tk U d u H=> ?_);have S:=kT (ys:=[I]) (tk:=tk) r T u H;exact k v _ S ⟨λ w m=>(l j v w U m).carry S.carry,N _ _ d,st.2⟩
 go:=λ b v C x c s Q E p L R T st k=>Dg L (k s (.refl R) (st.1 v p) st.2)
 done:=λ c s Q E r T st g k=>by obtain⟨fp,P,St,n,W,rfl,M,N,l⟩:=R c s r st.2.1 st.2.2 g;exact aO (λ f=>W.done s _ f (M _ st.1) λ h' tk u H=>k _ (kT (ys:=[I]) (tk:=tk) r T u H))
 self:=λ j c s Q E st q=>self _ j s Q E st.1 q
def Rel.Hj(R:Rel J c s){i:Nat}{I:Addr}(hi:i<c.Y.n)(n:I∈c.y)(hd:c.Y.f i≠.dead)(hf:c.fp i=[c.ρ i]):c.ρ i≠I:=λ q=>(R.d5 I n).2.2.1 (Rel.dH ⟨hi,hd⟩ (by rw[hf,q];exact .head _))
def dE.zF{I:Addr}{i:Nat}(m:A.handled=none)(vs:aw):dE J A false I [I] vs (λ Y=>Y.f i= .list vs) (λ j c h=>h.IsListIter I (c.ρ i) j/\i<c.Y.n/\I∈c.y) (λ j x c h=>(∀v,vs[j]? =some v->aE c h v x)/\h.IsListIter I (c.ρ i) (j+1)/\i<c.Y.n/\I∈c.y):=dE.rests (It:=λ h a j=>h.IsListIter I a j) (λ D D D D u st=>st.at u) (λ c s R hi n g=>by
  have t:=R.obj i hi
  rw[g]at t
  obtain⟨U,p,e,f⟩:=t
  exact⟨_,_,_,_,Walks.list (prog:=J.prog) (w:=J.w) m I (c.ρ i) (R.Hj hi n (by rw[g];exact od) U) p.toArray,f.length.symm,λ j st=>⟨st,e.isList⟩,λ j h st=>st.1,λ j x v L T=>f.at T (hY.symm.trans L)⟩) λ a j s Q E st q=>wpAny_pyIter_listiter st q
def dE.lh{I:Addr}{i:Nat}(f:A.handled=none)(bJ:List (Int×V))(ep:Nat):dE J A false I [I] (bJ.map (·.2)) (λ Y=>Y.f i= .dict bJ ep) (λ j c h=>h.IsValIter I (c.ρ i) j bJ.length ep/\i<c.Y.n/\I∈c.y) (λ j x c h=>(∀v,(bJ.map (·.2))[j]? =some v->aE c h v x)/\h.IsValIter I (c.ρ i) (j+1) bJ.length ep/\i<c.Y.n/\I∈c.y):=dE.rests (It:=λ h a j=>h.IsValIter I a j bJ.length ep) (λ D D D D u st=>st.at u) (λ c s R hi n g=>by
  have t:=R.obj i hi
  rw[g]at t
  obtain⟨U,M,e,m⟩:=t
  have l:=m.vals
  refine⟨_,_,_,_,Walks.dictValues (prog:=J.prog) (w:=J.w) f I (c.ρ i) (R.Hj hi n (by rw[g];exact od) U) M ep,l.1.symm.trans (a7 (λ x:Int×V=>x.2)).symm,λ j st=>⟨l.1▸st,e⟩,λ j h st=>l.1▸st.1,λ j x v L T=> ?_⟩
  obtain⟨k,L⟩:=L
  obtain⟨p,hp,rfl⟩:=dR.mp ((gL ..).symm.trans T)
  obtain⟨z,G,H⟩:=l.2 j p.1 p.2 hp
  rw[L]at G
  obtain⟨rfl,rfl⟩:=dX (aN G)
  exact H) λ a j s Q E st q=>wpAny_pyIter_valiter st q
def EJ{k:Int}{v:Value}(u:(intKind J.prog J.w).is k v=true):aE c h (.int k) v:=by have u:Value.isInt k v=true:=u;induction v with
 |int i t=>exact⟨t,by rw[show i=k from bc u]⟩|_=>exact nf u
def dE.QV{I:Addr}{i:Nat}(f:A.handled=none)(ks:List Int)(ep:Nat):dE J A false I [I] (ks.map .int) (λ Y=>∃bJ,Y.f i= .dict bJ ep/\bJ.map (·.1)=ks) (λ j c h=>h.IsKeyIter I (c.ρ i) j ks.length ep/\i<c.Y.n/\I∈c.y) (λ j x c h=>(∀v,(ks.map V.int)[j]? =some v->aE c h v x)/\h.IsKeyIter I (c.ρ i) (j+1) ks.length ep/\i<c.Y.n/\I∈c.y):=dE.rests (It:=λ h a j=>h.IsKeyIter I a j ks.length ep) (λ D D D D u st=>st.at u) (λ c s R hi n g=>by
  obtain⟨bJ,g,rfl⟩:=g
  have t:=R.obj i hi
  rw[g]at t
  obtain⟨U,M,N,m⟩:=t
  have l:=m.vals
  have e:=l.1.symm.trans (a7 (λ x:Int×V=>x.1)).symm
  refine⟨_,_,_,_,Walks.dictKeys (prog:=J.prog) (w:=J.w) f I (c.ρ i) (R.Hj hi n (by rw[g];exact od) U) M ep,e.trans (a7 V.int).symm,λ j st=>⟨e▸st,N⟩,λ j h st=>e▸st.1,λ j x v L T=> ?_⟩
  obtain⟨k,y,L,u⟩:=L
  obtain⟨z,H,rfl⟩:=dR.mp ((gL ..).symm.trans T)
  obtain⟨p,hp,rfl⟩:=dR.mp ((gL ..).symm.trans H)
  obtain⟨d,G,D⟩:=l.2 j p.1 p.2 hp
  rw[L]at G
  obtain⟨rfl,rfl⟩:=dX (aN G)
  exact EJ u) λ a j s Q E st q=>wpAny_pyIter_keyiter st q
inductive Src(J:Cx)(c:Vw)(s:Shared)(Q:Bool×aw×(Mem->Prop)->Mem->Prop):dM
 |mk (I:Addr) (ys:List Addr) (St:Nat->Vw->Heap->Prop) (Md:Nat->Value->Vw->Heap->Prop) (x:Bool×aw×(Mem->Prop)) (c':Vw) (s':Shared) (S:Step J c s c' s' cN) (hy:∀b∈ys,b∈c'.y/\s.heap.objs.size<=b) (t:∀A:Around,A.handled=none->dE J A x.1 I ys x.2.1 x.2.2 St Md) (st:St 0 c' s'.heap) (q:Q x c'.Y):Src J c s Q (.ref I) s'
def Src.after{c c₁:Vw}{s y:Shared}{Q:Bool×aw×(Mem->Prop)->Mem->Prop}{it:Value}{s':Shared}(S:Step J c s c₁ y cN)(h:Src J c₁ y Q it s'):Src J c s Q it s':=by obtain⟨I,ys,St,u,x,G,D,w,T,t,st,q⟩:=h;exact⟨I,ys,St,u,x,G,_,S.trans w,λ b U=>⟨(T b U).1,aa S.size (T b U).2⟩,t,st,q⟩
def BG(R:Rel J c s)(o:Obj)(t:Nat):Step J c s (c.rO [s.heap.objs.size]) {s with heap:=s.heap.push o,toks:=t} cN:=have z:(s.heap.push o).objs.size=s.heap.objs.size+1:=b9 ..
 R.xd [s.heap.objs.size] (λ D D e=>bN _ e) (z▸bR _) rfl rfl λ b U=>(bX.mp U).symm▸⟨ah _,by exact z▸bz _⟩
def Src.push(R:Rel J c s)(o:Obj)(tk:Nat){x:Bool×aw×(Mem->Prop)}{St:Nat->Vw->Heap->Prop}{u:Nat->Value->Vw->Heap->Prop}{Q:Bool×aw×(Mem->Prop)->Mem->Prop}(q:Q x c.Y)(t:∀A:Around,A.handled=none->dE J A x.1 s.heap.objs.size [s.heap.objs.size] x.2.1 x.2.2 St u)(st:Step J c s (c.rO [s.heap.objs.size]) {s with heap:=s.heap.push o,toks:=tk} cN->s.heap.objs.size∈(c.rO [s.heap.objs.size]).y->St 0 (c.rO [s.heap.objs.size]) (s.heap.push o)):Src J c s Q (.ref s.heap.objs.size) {s with heap:=s.heap.push o,toks:=tk}:=⟨_,[s.heap.objs.size],St,u,x,_,_,BG R o tk,λ b U=>bX.mp U▸⟨.head _,ah _⟩,t,st (BG R o tk) (.head _),q⟩
def tY(n:Nat):Builtin.Range.rangeSize 0 (n:Int) 1=n:=by refine(?_:(if(0:Int)<(n:Int)then((n:Int)-0-1)/1+1 else 0)=(n:Int));by_cases h:(0:Int)<(n:Int);rw[ar h,Int.ediv_one,Int.sub_zero,Int.sub_add_cancel];rw[au h,Nat.eq_zero_of_not_pos λ p=>h (oH.mpr p)];rfl
def zG{n:Nat}(p:(n:Int)<=1000000):Builtin.Range.small 0 n 1=true:=by have f:Builtin.Range.rangeFitsLong (n:Int)=true:=jI (af (Int.le_trans dD (dN n))) (af (Int.lt_of_le_of_lt p dD));unfold Builtin.Range.small;rw[tY,f];refine(?_:(_||Builtin.Range.rangeFitsLong ((n:Int)+0))=true);rw[Int.add_zero,f,Bool.or_true]
def tZ{a b c:Int}{j:Nat}{v:V}(h:(fN a b c)[j]? =some v):v= .int (a+j*c):=by unfold fN at h;rw[gL]at h;obtain⟨k,u,rfl⟩:=dR.mp h;have t:=tf u;rw[eB]at t;rw[aN (u.symm.trans (List.getElem?_range t))]
def EK(R:Rel J c s){r:Addr}{a b i:Int}{t u v:Tok}(l:IsRange s.heap r a b i t u v)(H:Builtin.Range.small a b i=true){Q:Bool×aw×(Mem->Prop)->Mem->Prop}(q:Q (false,fN a b i,λ D=>True) c.Y):wpAny J.ay A (pyIter (.ref r)) (Src J c s Q) E s:=wpAny_pyIter_range l H (Src.push R {cls:= .type "range_iterator",data:= .fields #[rawInt a,rawInt (Builtin.Range.rangeSize a b i),rawInt i]} s.toks (x:=(false,fN a b i,λ D=>True)) q (λ A' g=>dE.walks (Walks.range g s.heap.objs.size a i (Builtin.Range.rangeSize a b i).toNat) (λ b U=>U) (fN a b i) (a7 ..|>.trans eB).symm) λ S T=>⟨by
   refine(?_:Heap.get? _ _=_)
   rw[bS _ rfl,<-rangeSize_toNat]
   simp,λ j x w p e=>by
   obtain⟨y,rfl⟩:=p
   rw[tZ e]
   exact⟨y,rfl⟩,λ b U=> .inl U⟩)
def EL{l:aj}(I:∀y∈l,y<256){j:Nat}{c₀:UInt8}(h:(bG l)[j]? =some c₀):l[j]? =some c₀.toNat:=by unfold bG at h;rw[hY,gL]at h;obtain⟨a,C,rfl⟩:=dR.mp h;exact C▸aF some ((UInt8.toNat_ofNat' ..).trans (oJ (I a (nr C)))).symm
def t4{vs:aw}{f:aI}(E:aA c h vs f)(j:Nat)(x:Value)(v:V)(L:f.toArray[j]? =some x)(n:vs[j]? =some v):aE c h v x:=E.at n (hY.symm.trans L)
def Dh(R:Rel J c s){T:String}{a:Addr}{f:aI}{vs:aw}{o:Obj}{St:Nat->Heap->Prop}{Q:Bool×aw×(Mem->Prop)->Mem->Prop}(G:T="list"\/T="tuple")(h:SeqAt s.heap T a f)(nt:¬c.N a)(E:aA c s.heap vs f)(q:Q (false,vs,λ D=>True) c.Y)(W:a≠s.heap.objs.size->∀A:Around,A.handled=none->Walks J.prog J.w A s.heap.objs.size [s.heap.objs.size,a] [s.heap.objs.size] f.toArray.size (λ i v=>f.toArray[i]? =some v) St)(st:SeqAt (s.heap.push o) T a f->St 0 (s.heap.push o)):Src J c s Q (.ref s.heap.objs.size) {s with heap:=s.heap.push o}:=have ne:a≠s.heap.objs.size:=let⟨_,e⟩:=h;az (b6 e)
 Src.push R o s.toks (x:=(false,vs,λ D=>True)) q (λ A' g=>dE.walks (W ne A' g) (λ b U=>U) vs E.length.symm) λ S t=>have C:=h.carry S.carry G nt
  ⟨st C.1,t4 (E.carry S.carry),λ b U=>by cases U with
   |head=>exact .inl (.head _)|tail _ U=>cases U with
    |head=>exact .inr (C.1.Oh G C.2)|tail _ U=>exact absurd U ck⟩
def Hk(ok:bp J)(R:Rel J c s){i:Nat}{r:Bool×aw×(Mem->Prop)}(hi:i<c.Y.n)(h:zv i (c.Y.f i)=some r){Q:Bool×aw×(Mem->Prop)->Mem->Prop}(q:Q r c.Y):wpAny J.ay A (pyIter (.ref (c.ρ i))) (Src J c s Q) E s:=by have t:=R.obj i hi;generalize e:c.Y.f i=o at t h;induction o with
 |list vs=>obtain⟨U,m,M,f⟩:=t;obtain rfl:=aN h;exact wpAny_pyIter_list M.isList (Src.push R _ s.toks q (λ A' g=>dE.zF (i:=i) g vs) λ S T=>⟨⟨_,bS _ rfl,rfl,rfl⟩,hi,T⟩)
 |dict bJ ep=>obtain⟨U,N,G,f⟩:=t;obtain rfl:=aN h;have hd:(c.ρ i==sysModules)=false:=sx R (R.high _ (Rel.dH ⟨hi,by rw[e];exact od⟩ (by exact U▸.head _))).1 ok.sys;have I:(bJ.map (·.1)).length=N.length:=(a7 ..).trans f.vals.1;exact wpAny_pyIter_dict (knd:=intKind J.prog J.w) hd G (Src.push R _ s.toks q (λ A' g=>dE.QV (i:=i) g (bJ.map (·.1)) ep) λ S T=>⟨by rw[I];exact⟨_,bS _ rfl,rfl,rfl⟩,hi,T⟩)
 |_=>exact nn h
def BH(ok:bp J)(R:Rel J c s){v:V}{x:Value}{r:Bool×aw×(Mem->Prop)}(o:aE c s.heap v x)(h:jx c.Y v=some r){Q:Bool×aw×(Mem->Prop)->Mem->Prop}(q:Q r c.Y):wpAny J.ay A (pyIter x) (Src J c s Q) E s:=by induction v using vC with
 |list vs=>obtain rfl:=aN h;obtain⟨a,f,rfl,U,nt,m⟩:=o;exact wpAny_pyIter_list U.isList (Dh R (.inl rfl) U nt m q (λ ne A' g=>Walks.list g _ a ne f.toArray) λ U=>⟨⟨_,bS _ rfl,rfl,rfl⟩,U.isList⟩)
 |tuple vs=>obtain rfl:=aN h;obtain⟨a,f,rfl,U,nt,m⟩:=o;exact wpAny_pyIter_tuple U.fK (Dh R (.inr rfl) U nt m q (λ ne A' g=>Walks.tuple g _ a ne f.toArray) λ U=>⟨⟨_,bS _ rfl,rfl,rfl⟩,U.fK⟩)
 |bytes l=>obtain rfl:=aN h;obtain⟨I,t,rfl⟩:=o;refine KBw.pyIter_bytes (Src.push R _ s.toks q (λ A' g=>dE.walks (KBw.walks g s.heap.objs.size (bG l) t) (λ b M=>M) (l.map λ(k:Nat)=>V.int (k:Int)) (by simp[bG])) λ S T=>⟨⟨_,bS _ rfl,rfl,rfl⟩,λ j z w p e=> ?_,λ b M=> .inl M⟩);obtain⟨k,u,L,rfl⟩:=p;rw[gL,EL I L]at e;exact aN e▸⟨u,rfl⟩
 |ref i=>exact o.2▸Hk ok R o.1 h q|lh i=>exact o.elim
 |it N vs=>exact o.elim|_=>exact nn h
def jO(J:Cx)(pg:Pg)(d:Nat)(m:ME):Prop:=∀(k:CC)(e:aQ)(Q:Bool×aw×(Mem->Prop)->Mem->Prop)(B:aw)(Y:Mem)(A:Around)(E:dM)(c:Vw)(s:Shared)(env:Env),b4 2 k m e=true->wE J pg d m (λ v Y=>opt (jx Y v) λ x=>Q x Y) B Y->At J pg d k B Y A c s env->wpAny J.ay A (eval e env) (λ x y=>wpAny J.ay A (pyIter x) (Src J c s Q) E y) E s
def t5(ok:bp J){m:ME}(hm:aH J pg d m)(hp:∀k e,b4 2 k m e=true->b4 0 k m e=true):jO J pg d m:=λ k e Q B Y A E c s env h w T=>(hm k e _ B Y A E c s env (hp k e h) w T).go λ x f c₁ v S r o=>dt o λ y t q=>aW (BH (E:=E) ok S.rel r t q) (λ it U C=>C.after S) λ D D z=>z
def EM{m:ME}{es:List aQ}{n:Nat}{p:Pos}:∀{md:Nat},b4 md k m (.Set es n p)=false:=by induction m using ME.rec (motive_2:=λ D=>True) (motive_3:=λ D=>True)with
 |freeze a z=>intro md;exact(aF (md==0&&·) (z (md:=0))).trans (Bool.and_false _)|_=>first|exact λ{md}=>rfl|exact λ{md}=>Bool.and_false _|trivial
def qA{md:Nat}{m:ME}{e:aQ}(h:b4 md k m e=true)(x:Value):foldedSetIterable e env x=pure x:=by induction e using wa with
 |Set es n p=>exact nf (EM.symm.trans h)|_=>rfl
def sE(U:cB J pg){x:Str}{np:Pos}{i:Nat}{p:V->Bool}{Q:dM}(T:At J pg d k B Y A c s env)(h:k.is x i p=true)(q:∀v y,p v=true->aE c s.heap v y->Q y s):wpAny J.ay A (eval (.Name x np) env) Q E s:=by have h:=ao h;have M:=ao h.1;rw[T.gg]at M;obtain⟨g,N,G⟩:=w5 M.2;exact wpAny_Name (wA U T M.1 N λ y r=>q g.2 y G r) (jJ h.2)
def xH{t:Ty}{v:V}(h:KG t v=true):v= .ty t:=by induction v using vC with
 |ty u=>exact(show t=u from ae h).symm▸rfl|_=>exact nf h
def Hl{t:Bi}{v:V}(h:T6 t v=true):v= .bi t:=by induction v using vC with
 |bi u=>exact(show t=u from ae h).symm▸rfl|_=>exact nf h
def dn.no{ws:aw}{ks:List (Str×Value)}(r:dn c h [] ws ks):ks=[]:=by have r:=r.none;induction ks using lC with
 |nil=>rfl|cons=>exact r.elim
def xI(U:cB J pg){args:List ME}(C:cW J pg d args)(M:∀a,args=[.star a]->aH J pg d a){x:Str}{np p:Pos}{i:Nat}{t:Ty}{as:List aQ}{Q:dM}{P:aw->Mem->Prop}(T:At J pg d k B Y A c s env)(h:k.is x i (KG t)=true)(N:fP 0 k args as=true)(w:wEs J pg d args P B Y)(q:∀c₁ f vs xs,Step J c s c₁ f cN->aA c₁ f.heap vs xs->P vs c₁.Y->wpAny J.ay A (call (.type t.name) xs) Q E f):wpAny J.ay A (eval (.Call (.Name x np) as [] p) env) Q E s:=by refine ag (sE U T h λ v y n r=> ?_);rw[xH n]at r;refine(show y= .type t.name from r).symm▸?_;refine bM (kc.go (ea (ks:=[]) (ns:=[]) (kws:=[]) (P:=λ vs ws Y=>P vs Y) C M jz N (Bool.or_true _) rfl rfl rfl w T) λ a G c₂ vs ws b g o e=> ?_);exact o.no▸⟨⟨.machine,Looks.now⟩,q c₂ G vs a.pos b g e⟩
def aA.one{v:V}{xs:aI}(r:aA c h [v] xs):∃x,xs=[x]/\aE c h v x:=by induction xs using lC with
 |nil=>exact r.elim|cons x xs=>induction xs using lC with
  |nil=>exact⟨x,rfl,r.1⟩|cons=>exact r.2.elim
def aA.two{v w:V}{xs:aI}(r:aA c h [v,w] xs):∃x y,xs=[x,y]/\aE c h v x/\aE c h w y:=by induction xs using lC with
 |nil=>exact r.elim|cons x xs=>obtain⟨y,e,z⟩:=r.2.one;exact⟨x,y,by exact e.symm▸rfl,r.1,z⟩
def aA.three{v w u:V}{xs:aI}(r:aA c h [v,w,u] xs):∃x y z,xs=[x,y,z]/\aE c h v x/\aE c h w y/\aE c h u z:=by induction xs using lC with
 |nil=>exact r.elim|cons x xs=>obtain⟨y,z,e,o⟩:=r.2.two;exact⟨x,y,z,by exact e.symm▸rfl,r.1,o⟩
def aA.none{xs:aI}(r:aA c h [] xs):xs=[]:=by induction xs using lC with
 |nil=>rfl|cons=>exact r.elim
inductive Di(J:Cx)(c:Vw)(s:Shared)(ws:aw)(x:Value)(s':Shared):Prop
 |mk (r:Addr) (a b i:Int) (t u v:Tok) (e:x= .ref r) (S:Step J c s c s' cN) (h:IsRange s'.heap r a b i t u v) (hs:Builtin.Range.small a b i=true) (hw:ws=fN a b i):Di J c s ws x s'
def t6{vs ws:aw}{xs:aI}{Q:dM}(R:Rel J c s)(l:kQ vs=some ws)(f:aA c s.heap vs xs)(q:∀x s',Di J c s ws x s'->Q x s'):wpAny J.ay A (call (.type Ty.range.name) xs) Q E s:=by induction vs using lC with
 |nil=>exact nn l|cons v r=>induction r using lC with
  |nil=>have l:GO v=some ws:=l;obtain⟨b,rfl,l⟩:=iR l;have l:=bb l;obtain⟨x,e,t,rfl⟩:=f.one;refine e.symm▸?_;have U:=ao l.1;obtain⟨n,rfl⟩:=Int.eq_ofNat_of_zero_le (ae U.1);exact call_range_1 (q _ _ ⟨_,_,_,_,_,_,_,rfl,R.push _ _,IsRange.new ..,zG (ae U.2),l.2.symm⟩)
  |cons w r=>induction r using lC with
   |nil=>have l:GP v w=some ws:=l;obtain⟨a,rfl,l⟩:=iR l;obtain⟨b,rfl,l⟩:=iR l;have l:=bb l;obtain⟨x,y,e,⟨t,rfl⟩,u,rfl⟩:=f.two;refine e.symm▸?_;exact call_range_2 (q _ _ ⟨_,_,_,_,_,_,_,rfl,R.push _ _,IsRange.new ..,l.1,l.2.symm⟩)
   |cons z r=>induction r using lC with
    |nil=>have l:GQ v w z=some ws:=l;obtain⟨a,rfl,l⟩:=iR l;obtain⟨b,rfl,l⟩:=iR l;obtain⟨i,rfl,l⟩:=iR l;have l:=bb l;have j:=ao l.1;have C:=ao j.2;obtain⟨x,y,z,e,⟨t,rfl⟩,⟨u,rfl⟩,v,rfl⟩:=f.three;refine e.symm▸?_;exact call_range_3 (ae j.1) (q _ _ ⟨_,_,_,_,_,_,_,rfl,R.push _ s.toks,IsRange.new ..,C.2,l.2.symm⟩) (.inl (PyProof.noPylong_small (ae C.1)))
    |cons=>exact nn l
def Hm(U:cB J pg)(j:Nat){args:List ME}(C:cW J pg d args)(N:∀a,args=[.star a]->aH J pg d a):jO J pg d (.range j args):=by intro k e Q B Y A E c s env h w T;refine eX (P:=λ e=>wpAny J.ay A (eval e env) (λ x y=>wpAny J.ay A (pyIter x) (Src J c s Q) E y) E s) h λ g as ks p h=> ?_;have h:=ao h;refine(lq h.1).symm▸?_;refine bU (P:=λ g=>wpAny J.ay A (eval (.Call g as [] p) env) (λ x y=>wpAny J.ay A (pyIter x) (Src J c s Q) E y) E s) h.2 λ x np h=> ?_;have M:=ao (ao h).1;refine xI (P:=λ vs Y=>opt (kQ vs) λ vs=>Q (false,vs,λ D=>True) Y) U C N T M.1 M.2 w λ c₁ y vs xs S f o=>dt o λ ws l q=>t6 S.rel l f λ x s' L=> ?_;obtain⟨r,a,b,i,t,u,v,rfl,n,hi,H,rfl⟩:=L;exact aW (EK (E:=E) n.rel hi H q) (λ it G m=>m.after (S.trans n)) λ D D z=>z
def Rel.XX(R:Rel J c s)(ys:List Addr){h':Heap}(u:∀b A,s.heap.get? b=some A->h'.get? b=some A)(T:∀b∈ys,s.heap.objs.size<=b/\b<h'.objs.size)(H:s.heap.objs.size<=h'.objs.size):Step J c s (c.rO ys) {s with heap:=h'} cN:=R.xd ys u H rfl rfl T
def zip_get{xs ys:aw}{j:Nat}{v:V}(h:(List.zipWith (λ x y=>V.tuple [x,y]) xs ys)[j]? =some v):∃x y,xs[j]? =some x/\ys[j]? =some y/\v= .tuple [x,y]:=by rw[List.getElem?_zipWith]at h;cases L:xs[j]?with
 |none=>rw[L]at h;exact nn h|some x=>cases T:ys[j]?with
  |none=>rw[L,T]at h;exact nn h|some y=>rw[L,T]at h;obtain rfl:=aN h;exact⟨x,y,rfl,rfl,rfl⟩
def Src.made(R:Rel J c s){h':Heap}{n m:Nat}{ys ls wr:List Addr}{I:Addr}{vs:aw}{P:Nat->Array Value->Prop}{St:Nat->Heap->Prop}{g:Nat->Addr->Heap->Prop}{Q:Bool×aw×(Mem->Prop)->Mem->Prop}(u:∀b t,s.heap.get? b=some t->h'.get? b=some t)(hsz:h'.objs.size=s.heap.objs.size+n)(T:∀b∈ys,s.heap.objs.size<=b/\b<s.heap.objs.size+n)(l:∀b∈wr,b∈ys)(W:∀A:Around,A.handled=none->WalksU J.prog J.w A I (ys++ls) wr m P St g)(hm:m=vs.length)(f:Step J c s (c.rO ys) {s with heap:=h'} cN->St 0 h'/\(∀j x v,P j x->vs[j]? =some v->∃ws,v= .tuple ws/\aA (c.rO ys) h' ws x.toList)/\∀b∈ls,xG (c.rO ys) h' b)(q:Q (true,vs,λ D=>True) c.Y):Src J c s Q (.ref I) {s with heap:=h'}:=have S:=R.XX ys (h':=h') u (λ b U=>⟨(T b U).1,by exact hsz▸(T b U).2⟩) (by exact hsz▸av ..)
 have z:=f S
 ⟨I,ys,_,_,(true,vs,λ D=>True),_,_,S,λ b U=>⟨fH _ U,(T b U).1⟩,λ A' w=>dE.Oi (W A' w) l vs hm,⟨z.1,z.2.1,λ b U=>(bK.mp U).imp id (z.2.2 b)⟩,q⟩
def K3{N n:Nat}{l:aj}(h:l.all (λ o=>decide (o<n))=true):∀b∈l.map (N+·),N<=b/\b<N+n:=λ b U=>by obtain⟨o,m,rfl⟩:=bV.mp U;exact⟨av ..,lJ (ae (fE.mp h o m)) _⟩
def SeqAt.low{T:String}{a:Addr}{f:aI}(c:SeqAt h T a f):a<h.objs.size:=let⟨_,e⟩:=c;b6 e
def K4(R:Rel J c s){L ws:aw}{xs:aI}(g:aA c s.heap [.list L,.list ws] xs){Q:Bool×aw×(Mem->Prop)->Mem->Prop}(q:Q (true,List.zipWith (λ x y=> .tuple [x,y]) L ws,λ D=>True) c.Y):wpAny J.ay A (call (.type Ty.zip.name) xs) (λ x m=>wpAny J.ay A (pyIter x) (Src J c s Q) E m) E s:=by obtain⟨x,y,rfl,⟨l1,w,rfl,o,n1,i⟩,l2,t,rfl,M,n2,a⟩:=g.two;refine call_zip_2 o.isList M.isList λ h' N G j d r hsz u=>wpAny_pyIter_zip N (Src.made R (ls:=[l1,l2]) u hsz (K3 (l:=[4,2,3,0,1]) rfl) (λ b U=>(aT.mp U).elim (λ e=>e▸.head _) λ h=> .tail _ (.tail _ h)) (λ A' n=>(WalksT.zip2 n _ _ _ _ _ l1 l2 (zipApart_new o.low M.low) w.toArray t.toArray).toU) (by rw[cf,cf,<-i.length,<-a.length,List.length_zipWith]) (λ S=> ?_) q);have f:=o.carry S.carry (.inl rfl) n1;have H:=M.carry S.carry (.inl rfl) n2;refine⟨⟨N,G,⟨_,_,j⟩,d,r,f.1.isList,H.1.isList⟩,λ z x v p e=> ?_,λ b U=> ?_⟩;obtain⟨x1,y1,k,I,rfl⟩:=p;obtain⟨T,C,f1,f2,rfl⟩:=zip_get e;exact⟨[T,C],rfl,t4 (i.carry S.carry) _ _ _ k f1,t4 (a.carry S.carry) _ _ _ I f2,trivial⟩;exact(aT.mp U).elim (λ e=>e▸f.1.Oh (.inl rfl) f.2) λ U=>bX.mp U▸H.1.Oh (.inl rfl) H.2
def K5{a b:ME}{Q:aw->Mem->Prop}(e:a.isStar=false)(k:b.isStar=false)(w:wE J pg d a (λ va Y=>wE J pg d b (λ vb Y=>Q [va,vb] Y) B Y) B Y):wEs J pg d [a,b] Q B Y:=by refine(tR e).symm▸?_;simp only[λ(A:aw->Mem->Prop) Y=>tR (J:=J) (pg:=pg) (d:=d) (es:=[]) (Q:=A) (B:=B) (Y:=Y) k];exact w
def t7{a:ME}{es:List ME}{x:aQ}{xs:List aQ}(b:a.isStar=false)(M:b4 0 k a x=true)(p:noStar x=true)(h:fP 0 k es xs=true):fP 0 k (a::es) (x::xs)=true:=by rw[De b,p,M,h];rfl
def Om(u:cB J pg)(j:Nat){a b:ME}(C:cW J pg d [a,b]):jO J pg d (.zip j a b):=by
 intro k e Q B Y A E c s env h w T;refine eX (P:=λ e=>wpAny J.ay A (eval e env) (λ x y=>wpAny J.ay A (pyIter x) (Src J c s Q) E y) E s) h λ g as ks p h=> ?_;have h:=ao h;refine(lq h.1).symm▸?_;refine bU (P:=λ g=>wpAny J.ay A (eval (.Call g as [] p) env) (λ x y=>wpAny J.ay A (pyIter x) (Src J c s Q) E y) E s) h.2 λ x np h=> ?_;refine J4 (P:=λ as=>wpAny J.ay A (eval (.Call (.Name x np) as [] p) env) (λ x y=>wpAny J.ay A (pyIter x) (Src J c s Q) E y) E s) h λ o L h=> ?_;have h:=ao h;have M:=ao h.1;have N:=ao M.1;have l:=ao N.1;have G:=mM l.2 M.2;have I:=mM N.2 h.2;refine xI (P:=λ vs Y=>match vs with|[va,vb]=>opt (Kv va vb) (λ vs=>Q (true,vs,λ D=>True) Y)|_=>False) u C nofun T l.1 (t7 G l.2 M.2 (t7 I N.2 h.2 rfl)) (K5 G I w) λ c₁ y vs xs S f r=> ?_;obtain⟨va,vb,rfl⟩:∃va vb,vs=[va,vb]:=by induction vs using lC with
  |nil=>exact r.elim|cons va vs=>induction vs using lC with
   |nil=>exact r.elim|cons vb vs=>induction vs using lC with
    |nil=>exact⟨va,vb,rfl⟩|cons=>exact r.elim
 refine dt r λ zs U q=> ?_;induction va using vC with
 |list H=>induction vb using vC with
  |list ws=>rw[<-aN U]at q;exact aW (K4 (E:=E) S.rel f q) (λ x y h=>aW h (λ it n m=>m.after S) λ D D z=>z) λ D D z=>z|_=>exact nn U
 |_=>exact nn U
def EN(ok:bp J)(R:Rel J c s){i:Nat}(hi:i<c.Y.n){p:Pos}{t:Sem Bool}{bJ:List (Int×V)}{ep:Nat}(e:c.Y.f i= .dict bJ ep){Q:Bool×aw×(Mem->Prop)->Mem->Prop}(q:Q (false,bJ.map (·.2),λ σ'=>σ'.f i= .dict bJ ep) c.Y):wpAny J.ay A (getMethod (.ref (c.ρ i)) "values" t) (λ x y=>wpAny J.ay A (callWith p x.1 x.2 [] []) (λ x y=>wpAny J.ay A (pyIter x) (Src J c s Q) E y) E y) E s:=by have j:=R.obj i hi;rw[e]at j;obtain⟨U,M,h,f⟩:=j;have hd:(c.ρ i==sysModules)=false:=sx R (R.high _ (Rel.dH ⟨hi,by refine e.symm▸?_;exact od⟩ (by exact U▸.head _))).1 ok.sys;obtain⟨o,es,b,N,D⟩:=id h;refine getMethod_builtin (T:="dict") ⟨_,b,N.1⟩ F.plainAttrs_dict F.slot_dict_values F.type_dict_values (λ a C=>by obtain rfl:=sV C;exact⟨_,b,N.2.1⟩) (bM (di rfl rfl (ax (ax ⟨⟨.machine,Looks.now⟩,?_⟩))));refine call_meetsIn F.slot_dict_values ⟨_,b,N.1⟩ F.entry_dict_values (F.args_dict_values_1 _) (meets_dict_values (intKind J.prog J.w) _ hd) ⟨⟨M,h.dictOf⟩,?_⟩;have l:=R.push {cls:= .type "dict_values",data:= .fields #[.ref (c.ρ i)]} s.toks;refine wpAny_pyIter_values (knd:=intKind J.prog J.w) ⟨_,bS _ rfl,rfl,rfl⟩ (h.at λ o e=>bN _ e) ((Src.push l.rel _ s.toks q (λ A' g=>dE.lh (i:=i) g bJ ep) λ S d=>⟨?_,hi,d⟩).after l);exact f.vals.1▸⟨_,bS _ rfl,rfl,rfl⟩
def EO(ok:bp J){o:ME}(n:aH J pg d o):jO J pg d (.values o):=by intro k e Q B Y A E c s env h w T;refine eX (P:=λ e=>wpAny J.ay A (eval e env) (λ x f=>wpAny J.ay A (pyIter x) (Src J c s Q) E f) E s) h λ g as ks p h=> ?_;have h:=ao h;have b:=ao h.1;refine(lq b.1).symm▸(lq b.2).symm▸?_;refine bI (P:=λ g=>wpAny J.ay A (eval (.Call g [] [] p) env) (λ x f=>wpAny J.ay A (pyIter x) (Src J c s Q) E f) E s) h.2 λ m name U h=> ?_;have M:=ao h;have N:=ao M.1;have j:=ao N.1;refine(bc j.2).symm▸?_;show wpAny _ _ (attributeBase m "values" env (eval m env)>>=λ t=>standAt U.atName>>=λ D=>methodCall m "values" U p env t (([]:List aQ).length+0) (backTo p (starEach [] env)) (backToKw p (keywordEach [] env))) _ _ _;refine(oZ j.1).symm▸?_;refine ag ((n k m _ B Y A E c s env M.2 w T).go λ t f c₁ v S r a=>ag (cP (rQ (P:=λ v=>aE c₁ f.heap v t->_) a (λ i a r=>dt a λ x L q=> ?_) r)));refine r.2.symm▸?_;have G:methodCallForm (([]:List aQ).length+0) (backTo p (starEach [] env)) (backToKw p (keywordEach [] env))=true:=rfl;unfold methodCall methodCallPos;rw[G,ar (by simp[ae N.2])];obtain⟨bJ,ep,e,L⟩:=CZ L;obtain rfl:=aN L;refine ag (bB (aW (EN (E:=E) ok S.rel r.1 e q) (λ y I h=>ag (ax (aW h (λ x f h=>aW h (λ it I C=>C.after S) λ D D z=>z) λ D D z=>z))) λ D D z=>z))
def iD:∀(names:List (Str×NameKind))(n:Nat)(acc:List (Str×Addr)),cellsFrom n names acc=cellsFrom n names []++acc
 |[],_,_=>rfl|(x,k)::r,n,acc=>by unfold cellsFrom;split;refine(iD r _ ((x,n)::acc)).symm▸(iD r _ [(x,n)]).symm▸?_;simp;exact iD r n acc
def mi:∀{names:List (Str×NameKind)}{n:Nat}{x:Str}{c:Addr},(x,c)∈cellsFrom n names []->(x,NameKind.cell)∈names/\n<=c
 |[],_,_,_,h=>by exact absurd h ck|(y,k)::r,n,x,c,h=>by
  unfold cellsFrom at h;split at h;rename_i u;have u:k= .cell:=by exact ae u
  subst u;rw[iD]at h;rcases bK.mp h with h|h;exact⟨kI _ (mi h).1,Nat.le_of_succ_le (mi h).2⟩;replace h:=bX.mp h;obtain⟨rfl,rfl⟩:=h;exact⟨by exact gM,ah _⟩;exact⟨kI _ (mi h).1,(mi h).2⟩
def eh{α:Type}:∀{l:List (Str×α)}{x:Str}{v:α},(x,v)∈l->(l.lookup x).isSome=true
 |(y,w)::r,x,v,h=>by
  rw[fm];by_cases e:x==y;refine e.symm▸?_;rfl;have M:(x==y)=false:=by exact(qc _).mp e
  refine M.symm▸?_;rcases aT.mp h with h|h;obtain⟨rfl,rfl⟩:=dX h;simp at e;exact eh h
def Hn:∀{names:List (Str×NameKind)}{n:Nat}{x:Str},(x,NameKind.cell)∈names->((cellsFrom n names []).lookup x).isSome=true:=by
 intro names n x h;have:∃c,(x,c)∈cellsFrom n names []:=by induction names generalizing n with
  |nil=>exact absurd h ck|cons p r z=>obtain⟨y,k⟩:=p;unfold cellsFrom;split;rw[iD];rcases aT.mp h with h|h;obtain⟨rfl,rfl⟩:=dX h;exact⟨n,by exact sW _ gM⟩;obtain⟨c,w⟩:=z (n:=n+1) h;exact⟨c,bK.mpr (.inl w)⟩;rename_i u;rcases aT.mp h with h|h;obtain⟨rfl,rfl⟩:=dX h;exact absurd rfl u;exact z h
 obtain⟨c,w⟩:=this;exact eh w
def gw(names:List (Str×NameKind))(n:Nat)(acc:List (Str×Addr))(x:Str):(cellsFrom n names acc).lookup x=((cellsFrom n names []).lookup x).or (acc.lookup x):=by rw[iD,List.lookup_append]
def xJ{names:List (Str×NameKind)}{n:Nat}{x:Str}(h:(x,NameKind.cell)∉names):(cellsFrom n names []).lookup x=none:=by cases e:(cellsFrom n names []).lookup x with
 |none=>rfl|some c=>exact absurd (mi (lookup_mem e)).1 h
def t8{M:Model}{scope:Scope}{globals:Addr}{closure:List (Str×Addr)}{binds:List (Str×Value)}{qual:Str}{func:Option Addr}{code:Value}{around:Option Env}{builtins:Addr}{Q:Env->Shared->Prop}(h:wpAny M A (forIn binds PUnit.unit λ(x:Str×Value) (D:PUnit)=>storeName (newEnv scope s.heap.objs.size globals (cellsFrom (s.heap.objs.size+1) scope.names closure) qual func code around builtins) x.1 x.2>>=λ D=>pure (ForInStep.yield PUnit.unit)) (λ D s'=>Q (newEnv scope s.heap.objs.size globals (cellsFrom (s.heap.objs.size+1) scope.names closure) qual func code around builtins) s') E {s with heap:=pushCells (s.heap.push {cls:= .type (if around.isSome then"dict"else"frame"),data:= .dict #[]}) scope.names}):wpAny M A (newFunctionEnv scope globals closure binds qual func code around builtins) Q E s:=by simp only[newFunctionEnv];refine ag (wpAny_alloc ?_);refine ag (wpAny_layCells _ (λ name kind cells=>by cases j:kind==NameKind.cell<;>rfl) _ _ _ _ ?_);refine(show({s with heap:=s.heap.push {cls:= .type (if around.isSome then"dict"else"frame"),data:= .dict #[]}}:Shared).heap.objs.size=s.heap.objs.size+1 from b9 ..).symm▸?_;induction around with
 |none=>exact ag (aW h (λ D D q=>ax q) λ D D e=>e)|some o=>exact ag (aW h (λ D D q=>ax q) λ D D e=>e)
def BI{scope:Scope}(h:∀x,(x,NameKind.free)∈scope.names->(env.cells.lookup x).isSome=true):∃cl,closureFor scope env=pure cl/\(∀x a,(x,a)∈cl->(x,NameKind.free)∈scope.names/\env.cells.lookup x=some a)/\∀x,(x,NameKind.free)∈scope.names->(cl.lookup x).isSome=true:=by
 have go:∀(names:List (Str×NameKind))(acc:List (Str×Addr)),(∀x,(x,NameKind.free)∈names->(env.cells.lookup x).isSome=true)->
   ∃cl,(forIn names acc (λ(p:Str×NameKind) (C:List (Str×Addr))=>if p.2== .free then(cellOf env p.1>>=λ a=>pure (ForInStep.yield ((p.1,a)::C)))else pure (ForInStep.yield C)):Sem (List (Str×Addr)))=pure (cl++acc)/\(∀x a,(x,a)∈cl->(x,NameKind.free)∈names/\env.cells.lookup x=some a)/\∀x,(x,NameKind.free)∈names->(cl.lookup x).isSome=true:=by
  intro names;induction names with
  |nil=>intro acc D;exact⟨[],rfl,λ x a h=>by exact absurd h ck,λ x h=>by exact absurd h ck⟩|cons p r z=>
   intro acc T;obtain⟨y,k⟩:=p;rw[iL];have l:∀x,(x,NameKind.free)∈r->(env.cells.lookup x).isSome=true:=λ x L=>T x (kI _ L);by_cases u:k= .free;subst u;obtain⟨a,E⟩:=qd.mp (T y (by exact gM));obtain⟨cl,e,M,N⟩:=z ((y,a)::acc) l;refine⟨cl++[(y,a)],?_,λ x b U=> ?_,λ x L=> ?_⟩;simp only[f9,if_true];have w:cellOf env y=pure a:=by delta cellOf;rw[E]
   refine w.symm▸?_;show(forIn r ((y,a)::acc) _:Sem (List (Str×Addr)))=_;refine e.symm▸?_;simp;rcases bK.mp U with U|U;exact⟨kI _ (M x b U).1,(M x b U).2⟩;replace U:=bX.mp U;obtain⟨rfl,rfl⟩:=U;exact⟨by exact gM,E⟩;rw[List.lookup_append];rcases aT.mp L with L|L;have L:x=y:=aF Prod.fst L;subst L;cases q:cl.lookup x with
   |none=>simp|some _=>rfl
   have:=N x L;cases q:cl.lookup x with
   |none=>rw[q]at this;exact nf this|some _=>rfl
   obtain⟨cl,e,M,N⟩:=z acc l;have U:(k==NameKind.free)=false:=by simpa using u
   refine⟨cl,?_,λ x b U=>⟨kI _ (M x b U).1,(M x b U).2⟩,λ x L=> ?_⟩;simp only[U,Bool.false_eq_true,if_false];exact e;rcases aT.mp L with L|L;obtain⟨rfl,rfl⟩:=dX L;exact absurd rfl u;exact N x L
 obtain⟨cl,e,M,N⟩:=go scope.names [] h;rw[dw]at e;refine⟨cl,?_,M,N⟩;show(forIn scope.names [] _>>=λ C=>pure C:Sem (List (Str×Addr)))=_;have d:(λ(x:Str×NameKind) (r:List (Str×Addr))=>(match x with|(name,kind)=>if(kind==NameKind.free)=true then(do let __do_lift<-cellOf env name;pure (ForInStep.yield ((name,__do_lift)::r)))else pure (ForInStep.yield r):Sem (ForInStep (List (Str×Addr)))))=(λ(p:Str×NameKind) (C:List (Str×Addr))=>if p.2== .free then(cellOf env p.1>>=λ a=>pure (ForInStep.yield ((p.1,a)::C)))else pure (ForInStep.yield C)):=by funext ⟨a,b⟩ r;rfl
 first
  |(exact e.symm▸rfl;rfl)
  |(simp only[]at e⊢;erw[e];rfl)
noncomputable def rR(scope:Scope)(cl:List (Str×Addr))(L:Addr)(env:Env):Env:={(newEnv scope L env.globals (cellsFrom (L+1) scope.names cl) env.qual none .none (some env) builtinsNs)with scope:=relabel scope env}
noncomputable def unbind(own:List (Str×Nat))(B:aw):aw:=own.foldl (λ f p=>f.set p.2 .aC) B
def nW:∀{own:List (Str×Nat)}{B:aw}{i:Nat}{v:V},(unbind own B)[i]? =some v->v= .aC\/B[i]? =some v
 |[],_,_,_,h=> .inr h|p::r,B,i,v,h=>by have h:(unbind r (B.set p.2 .aC))[i]? =some v:=h;rcases nW h with h|h;exact .inl h;rw[List.getElem?_set]at h;split at h;split at h;obtain rfl:=aN h;exact .inl rfl;exact nn h;exact .inr h
def t9:∀{own:List (Str×Nat)}{B:aw}{x:Str}{i:Nat}{v:V},(x,i)∈own->(unbind own B)[i]? =some v->v= .aC
 |p::r,B,x,i,v,hm,h=>by have h:(unbind r (B.set p.2 .aC))[i]? =some v:=h;rcases aT.mp hm with rfl|hm;rcases nW h with h|h;exact h;rw[List.getElem?_set]at h;simp only[if_true]at h;split at h;obtain rfl:=aN h;rfl;exact nn h;exact t9 hm h
def xK{scope:Scope}{x:Str}{k:NameKind}(h:scope.names.lookup x=some k):(relabel scope env).names.lookup x=some (if(k== .free&&env.scope.kind== .function&&env.kindOf x==some .cell)=true then .cell else k):=by delta relabel;dsimp only;generalize scope.names=names at h;induction names with
 |nil=>exact nn h|cons p r z=>
  obtain⟨y,j⟩:=p;rw[fm]at h;refine fG.symm▸?_;by_cases e:x==y;rw[e]at h;have M:x=y:=by exact ae e
  subst M;obtain rfl:=aN h;split<;>simp_all;have M:(x==y)=false:=by exact(qc _).mp e
  rw[M]at h;have:=z h;split<;>(rw[fm,M];exact this)
def o9{scope:Scope}{x:Str}(h:scope.names.lookup x=none):(relabel scope env).names.lookup x=none:=by delta relabel;dsimp only;generalize scope.names=names at h;induction names with
 |nil=>rfl|cons p r z=>
  obtain⟨y,j⟩:=p;rw[fm]at h;refine fG.symm▸?_;by_cases e:x==y;rw[e]at h;exact sn h;have M:(x==y)=false:=by exact(qc _).mp e
  rw[M]at h;have:=z h;split<;>(rw[fm,M];exact this)
def ba{names:List (Str×NameKind)}(T:(names.map (·.1)).Nodup){x:Str}{k:NameKind}(h:(x,k)∈names):names.lookup x=some k:=by induction names with
 |nil=>exact absurd h ck|cons p r z=>
  obtain⟨y,j⟩:=p;rw[fG,gR]at T;rw[fm];rcases aT.mp h with h|h;obtain⟨rfl,rfl⟩:=dX h;simp;have:x≠y:=by intro e;exact T.1 (bV.mpr ⟨(x,k),h,e⟩)
  have M:(x==y)=false:=by simpa using this
  exact M▸z T.2 h
def nY{sc:Scope}{own:List (Str×Nat)}(h:jy k sc own=true):sc.kind= .function/\(sc.names.map (·.1)).Nodup/\k.nm.lookup (".0":Str)=none/\∀x kd,(x,kd)∈sc.names->((kd= .local\/kd= .cell)/\(x=(".0":Str)\/(own.lookup x).isSome=true))\/(kd= .free/\own.lookup x=none/\(k.kd.lookup x=some .cell\/k.kd.lookup x=some .free))\/kd= .globalImplicit:=by unfold jy at h;rw[qX,qX,qX,decide_eq_true_eq,decide_eq_true_eq,fE,qY]at h;refine⟨h.1.1.1,h.1.1.2,h.1.2,λ x kd hm=> ?_⟩;have:=h.2 (x,kd) hm;induction kd with
 |«local»=>have this:(x==(".0":Str)||(own.lookup x).isSome)=true:=this;rw[Bool.or_eq_true,cZ]at this;exact .inl ⟨.inl rfl,this⟩|cell=>have this:(x==(".0":Str)||(own.lookup x).isSome)=true:=this;rw[Bool.or_eq_true,cZ]at this;exact .inl ⟨.inr rfl,this⟩
 |free=>have this:((own.lookup x).isNone&&(k.kd.lookup x==some .cell||k.kd.lookup x==some .free))=true:=this;rw[qX,Bool.or_eq_true,cZ,cZ,qY]at this;exact .inr (.inl ⟨rfl,this⟩)|globalImplicit=>exact .inr (.inr rfl)
 |_=>exact nf this
def K6(T:At J pg d k B Y A c s env){sc:Scope}{own:List (Str×Nat)}(hs:jy k sc own=true){cl:List (Str×Addr)}(h1:∀x a,(x,a)∈cl->(x,NameKind.free)∈sc.names/\env.cells.lookup x=some a)(h2:∀x,(x,NameKind.free)∈sc.names->(cl.lookup x).isSome=true)(l:Obj)(Q:l.data= .dict #[]):∃ys,s.heap.objs.size∈ys/\(∀b∈ys,s.heap.objs.size<=b)/\Step J c s (c.rO ys) {s with heap:=pushCells (s.heap.push l) sc.names} cN/\At J pg d (k.inner sc own) (unbind own B) Y A (c.rO ys) {s with heap:=pushCells (s.heap.push l) sc.names} (rR sc cl s.heap.objs.size env)/\(∀x b,(own.lookup x).isSome=true->Eh (rR sc cl s.heap.objs.size env) x b->s.heap.objs.size<=b)/\(∀x a,(rR sc cl s.heap.objs.size env).cells.lookup x=some a->s.heap.objs.size<a\/a<s.heap.objs.size):=by
 obtain⟨PX,M,h0,PY⟩:=nY hs;have ub:l.isFreed=false:=by obtain⟨a,b,c,d⟩:=l;subst Q;rfl
 have ok:=cellsFrom_ok sc.names (s.heap.push l) (s.heap.objs.size+1) [] ⟨λ _ _ hm=>(mn hm),List.Pairwise.nil⟩ (by rw[b9];exact ah _);rw[b9]at ok;generalize hH:pushCells (s.heap.push l) sc.names=H at ok;have ke:∀b o,s.heap.get? b=some o->H.get? b=some o:=λ b o e=>hH▸pushCells_keeps _ _ b o (bN _ e);have hL:H.get? s.heap.objs.size=some l:=hH▸pushCells_keeps _ _ _ _ (bS _ ub);have hsz:s.heap.objs.size<=H.objs.size:=bo (b6 hL);have f:∀x a,(cellsFrom (s.heap.objs.size+1) sc.names []).lookup x=some a->H.IsCell a none/\s.heap.objs.size<a/\(x,NameKind.cell)∈sc.names:=λ x a h=>⟨(ok.empty x a (lookup_mem h)).1,(ok.empty x a (lookup_mem h)).2,(mi (lookup_mem h)).1⟩;let ys:=s.heap.objs.size::(cellsFrom (s.heap.objs.size+1) sc.names []).map (·.2);have g:∀b∈ys,s.heap.objs.size<=b/\b<H.objs.size:=λ b U=>by rcases aT.mp U with rfl|U;exact⟨ah _,b6 hL⟩;obtain⟨⟨x,a⟩,hp,rfl⟩:=bV.mp U;exact⟨bo (ok.empty x a hp).2,(ok.empty x a hp).1.lt⟩
 have S:Step J c s (c.rO ys) {s with heap:=H} cN:=T.rl.xd ys ke hsz rfl rfl g;have m:∀x a,(rR sc cl s.heap.objs.size env).cells.lookup x=some a->(a∈ys/\s.heap.objs.size<a/\(x,NameKind.cell)∈sc.names/\(x,a)∈cellsFrom (s.heap.objs.size+1) sc.names [])\/((x,NameKind.free)∈sc.names/\env.cells.lookup x=some a):=λ x a h=>by have h:(cellsFrom (s.heap.objs.size+1) sc.names cl).lookup x=some a:=h;rw[gw]at h;cases q:(cellsFrom (s.heap.objs.size+1) sc.names []).lookup x with
  |some b=>
   rw[q]at h;have h:b=a:=by exact aN h
   subst h;exact .inl ⟨kI _ (bV.mpr ⟨(x,b),lookup_mem q,rfl⟩),(f x b q).2.1,(f x b q).2.2,lookup_mem q⟩
  |none=>
   rw[q]at h;have h:cl.lookup x=some a:=by exact h
   exact .inr (h1 x a (lookup_mem h))
 have G:∀x kd,(x,kd)∈sc.names->(rR sc cl s.heap.objs.size env).kindOf x=some (if(kd== .free&&env.scope.kind== .function&&env.kindOf x==some .cell)=true then .cell else kd):=λ x kd h=>xK (ba M h);have xN:∀x kd,(rR sc cl s.heap.objs.size env).kindOf x=some kd->∃N,(x,N)∈sc.names/\kd=if(N== .free&&env.scope.kind== .function&&env.kindOf x==some .cell)=true then .cell else N:=λ x kd h=>by cases q:sc.names.lookup x with
  |none=>have:(rR sc cl s.heap.objs.size env).kindOf x=none:=o9 q;rw[this]at h;exact nn h|some N=>have:=G x N (lookup_mem q);rw[this]at h;exact⟨N,lookup_mem q,(aN h).symm⟩
 have gy:∀x,(x,NameKind.free)∈sc.names->∃a,(rR sc cl s.heap.objs.size env).cells.lookup x=some a/\env.cells.lookup x=some a:=λ x h=>by obtain⟨a,C⟩:=qd.mp (h2 x h);refine⟨a,?_,(h1 x a (lookup_mem C)).2⟩;refine(?_:(cellsFrom (s.heap.objs.size+1) sc.names cl).lookup x=some a);rw[gw,xJ (λ q=>by have:=(ba M q).symm.trans (ba M h);exact Option.noConfusion rfl (heq_of_eq this) (λ e=>NameKind.noConfusion (eq_of_heq e)))];exact C
 have xO:∀x,(rR sc cl s.heap.objs.size env).kindOf x=some .cell->((x,NameKind.cell)∈sc.names)\/((x,NameKind.free)∈sc.names/\env.kindOf x=some .cell):=λ x h=>by obtain⟨N,hm,e⟩:=xN x _ h;split at e;rename_i q;simp only[qX,cZ]at q;obtain⟨⟨rfl,_⟩,q⟩:=q;exact .inr ⟨hm,q⟩;subst e;exact .inl hm
 have hold:∀x a,env.cells.lookup x=some a->a<s.heap.objs.size:=λ x a h=>(T.en.seen x a h).2.2;have BJ:∀b,Own (rR sc cl s.heap.objs.size env) b->b∈ys\/(Own env b/\b<s.heap.objs.size):=λ b U=>by rcases U with rfl|⟨x,E,I⟩;exact .inl gM;rcases m x b I with q|⟨q1,q2⟩;exact .inl q.1;rcases xO x E with z|z;have:=(ba M z).symm.trans (ba M q1);exact Option.noConfusion rfl (heq_of_eq this) (λ e=>NameKind.noConfusion (eq_of_heq e));exact .inr ⟨.inr ⟨x,z.2,q2⟩,hold x b q2⟩
 refine⟨ys,gM,λ b U=>(g b U).1,S,⟨T.rm,T.sg,S.rel,⟨PX,T.en.glob,T.en.Ny,⟨?_,?_,?_,?_⟩,?_,?_,?_⟩,?_,?_,T.gg,T.sk.step S⟩,λ x b L U=> ?_,λ x a I=> ?_⟩
 rotate_right 2
 rcases U with⟨_,rfl⟩|⟨E,I⟩;exact ah _;rcases m x b I with q|q;exact bo q.2.1;rcases PY x .free q.1 with w|w|w;rcases w.1 with w|w<;>exact NameKind.noConfusion w;rw[w.2.1]at L;exact nf L;exact NameKind.noConfusion w;rcases m x a I with q|q;exact .inl q.2.1;exact .inr (hold x a q.2);refine⟨l,#[],0,hL,?_,λ e he=>by simp at he⟩;exact Q;intro x L;rcases xO x L with z|⟨z1,z2⟩;obtain⟨a,C⟩:=qd.mp (Hn (n:=s.heap.objs.size+1) z);refine⟨a,none,?_,(f x a C).1,Nat.ne_of_gt (f x a C).2.1⟩;refine(?_:(cellsFrom (s.heap.objs.size+1) sc.names cl).lookup x=some a);rw[gw,C];rfl;obtain⟨a,C,U⟩:=gy x z1;obtain⟨a',v,I,ic,ne⟩:=T.en.H.cell x z2;rw[U]at I;obtain rfl:=aN I;exact⟨a,v,C,ic.keeps ke,az (hold x a U)⟩;intro x y a L hy Ul Um;rcases m x a Ul with p|p<;>rcases m y a Um with q|q;exact name_of_addr ok.apart p.2.2.2 q.2.2.2;exact absurd (hold y a q.2) (aD (bo p.2.1));exact absurd (hold x a p.2) (aD (bo q.2.1));have px:env.kindOf x=some .cell:=by rcases xO x L with z|z;have:=(ba M z).symm.trans (ba M p.1);exact Option.noConfusion rfl (heq_of_eq this) (λ e=>NameKind.noConfusion (eq_of_heq e));exact z.2
 have py:env.kindOf y=some .cell:=by rcases xO y hy with z|z;have:=(ba M z).symm.trans (ba M q.1);exact Option.noConfusion rfl (heq_of_eq this) (λ e=>NameKind.noConfusion (eq_of_heq e));exact z.2
 exact T.en.H.inj x y a px py p.2 q.2;intro y a hy I Q;obtain⟨N,hm,e⟩:=xN y _ hy;have Ef:(y,NameKind.free)∈sc.names/\env.kindOf y≠some .cell:=by split at e;exact NameKind.noConfusion e;rename_i q;subst e;refine⟨hm,λ z=>q ?_⟩;simp[z,T.en.kind]
 rcases m y a I with q|q;have:=(ba M q.2.2.1).symm.trans (ba M Ef.1);exact Option.noConfusion rfl (heq_of_eq this) (λ e=>NameKind.noConfusion (eq_of_heq e));have gU:=hold y a q.2;rcases BJ a Q with z|z;exact aD (g a z).1 gU;have Ui:env.kindOf y=some .free:=by rcases PY y .free Ef.1 with w|w|w;rcases w.1 with w|w<;>exact NameKind.noConfusion w;rcases w.2.2 with w|w;exact absurd (T.kd.c y w) Ef.2;rcases T.kd.f y w with w|w;exact w;exact absurd w Ef.2;exact NameKind.noConfusion w
 exact T.en.H.sep y a Ui q.2 z.1;intro b U;rcases BJ b U with z|z;exact .inl (bK.mpr (.inl z));exact(T.en.own b z.1).imp (λ q=>bK.mpr (.inr q)) (λ q=>q);intro x a I;rcases m x a I with q|q;refine⟨aa T.rl.size (bo q.2.1),λ t=> ?_,(g a q.1).2⟩;exact absurd (T.rl.high a t).2 (aD (bo q.2.1));exact⟨(T.en.seen x a q.2).1,λ t=>(T.en.seen x a q.2).2.1 t,ai (hold x a q.2) hsz⟩;intro x L;obtain⟨N,hm,e⟩:=xN x _ L;split at e;exact NameKind.noConfusion e;subst e;obtain⟨a,C,_⟩:=gy x hm;refine C.symm▸?_;rfl;refine⟨λ x L=> ?_,λ x L=> ?_,λ x L=> ?_,λ x L=> ?_,λ x L=> ?_⟩;have L:isVar (sc.names.lookup x)=true:=L;cases q:sc.names.lookup x with
 |none=>rw[q]at L;exact nf L|some kd=>rw[q]at L;refine(G x kd (lookup_mem q)).symm▸?_;split;rfl;exact L
 refine(G x _ (lookup_mem L)).symm▸?_;rfl;refine(G x _ (lookup_mem L)).symm▸?_;rfl;refine(G x _ (lookup_mem L)).symm▸?_;rfl;refine(G x _ (lookup_mem L)).symm▸?_;split;exact .inr rfl;exact .inl rfl;intro x i v I E hi;have I:(own++k.nm).lookup x=some i:=I;rw[List.lookup_append]at I;cases q:own.lookup x with
 |some j=>
  rw[q]at I;have I:j=i:=by exact aN I
  subst I;exact .inl (t9 (lookup_mem q) hi)
 |none=>
  rw[q]at I;have I:k.nm.lookup x=some i:=by exact I
  rcases nW hi with z|z;exact .inl z;cases S4:(rR sc cl s.heap.objs.size env).kindOf x with
  |none=>rw[S4]at E;exact nf E|some kd=>
   obtain⟨N,hm,e⟩:=xN x _ S4;rcases PY x N hm with w|w|w;rcases w.2 with rfl|w;rw[h0]at I;exact nn I;rw[q]at w;exact nf w;obtain⟨rfl,_,w⟩:=w;have Wh:env.kindOf x=some .cell\/env.kindOf x=some .free:=by rcases w with w|w;exact .inl (T.kd.c x w);exact(T.kd.f x w).symm
   obtain⟨a,C,U⟩:=gy x hm;rcases T.fv x i v I (by rcases Wh with z|z<;>exact z.symm▸rfl<;>rfl) z with z|⟨u,V,r⟩;exact .inl z;rcases V with⟨q1,_⟩|⟨_,a',MP,ic⟩;rcases Wh with z|z<;>rw[z]at q1<;>exact Option.noConfusion rfl (heq_of_eq q1) (λ e=>NameKind.noConfusion (eq_of_heq e));rw[U]at MP;obtain rfl:=aN MP;refine .inr ⟨u,.inr ⟨?_,a,C,ic.keeps ke⟩,r.carry S.carry⟩;refine S4.symm▸e.symm▸?_;split;exact .inl rfl;exact .inr rfl;subst w;rw[S4,e]at E;exact nf E
def At.wD{c G:Vw}{s s':Shared}{W:Addr->Prop}(T:At J pg d k B Y A c s env)(S:Step J c s G s' W)(M:¬W env.locals)(N:∀x a,env.cells.lookup x=some a->¬W a):At J pg d k B G.Y A G s' env:=⟨T.rm,rfl,S.rel,T.en.step T.rl S λ b U=>by rcases U with rfl|⟨x,D,I⟩;exact M;exact N x b I,T.kd,T.fv.step T.en T.rl S ⟨M,N⟩,T.gg,T.sk.step S⟩
def zH(env:Env)(own:List (Str×Nat))(b:Addr):Prop:=∃x i,(x,i)∈own/\Eh env x b
def uc(f:A.handled=none)(R:Rel J c s){t:Addr}{vals:Array Value}(I:s.heap.IsTuple t vals){Q:aI->Shared->Prop}(q:∀s',Step J c s c s' cN->Q vals.toList s'):wpAny J.ay A (unpackItems (.ref t) vals.size none) Q E s:=by refine aO λ g=>wpAny_unpackItems_tuple f I λ h' he H=> ?_;have S:Step J c s c {s with heap:=h'} cN:=R.other cN (λ b o e D=>he b o (az (b6 e)) e) (λ D h=>h.elim) H rfl rfl;exact q _ S
def iE{P:Prop}{k:Bool}{u:aj}{v:V}{B x:aw}(C:lX k u v B=some x)(f:∀i,k=false->u=[i]->x=B.set i v->P)(g:∀i j a b,k=true->u=[i,j]->v= .tuple [a,b]->x=(B.set i a).set j b->P):P:=by induction k with
 |false=>induction u using lC with
  |nil=>exact nn C|cons i u=>induction u using lC with
   |nil=>exact f i rfl rfl (aN C).symm|cons=>exact nn C
 |true=>induction u using lC with
  |nil=>exact nn C|cons i u=>induction u using lC with
   |nil=>exact nn C|cons j u=>induction u using lC with
    |nil=>obtain⟨vs,e,C⟩:=NM C;obtain⟨a,b,M,C⟩:=GG C;exact g i j a b rfl rfl (M▸e) (aN C).symm
    |cons=>exact nn C
def BK{Q:Unit->Shared->Prop}{y z:Str}{f H p:Pos}{n i j:Nat}{a b:V}{x:Value}(g:A.handled=none)(T:At J pg d k B Y A c s env)(N:k.iV y i=true)(G:k.iV z j=true)(l:Hi true c s.heap (.tuple [a,b]) x)(q:∀s',Step J c s c s' (zH env [(y,i),(z,j)])->At J pg d k ((B.set i a).set j b) Y A c s' env->Q () s'):wpAny J.ay A (assign (.Tuple [.Name y f,.Name z H] n p) env x) Q E s:=by obtain⟨ws,TT,vals,e,rfl,I,m⟩:=l;cases e;obtain⟨u1,u2,t,o,u⟩:=m.two;have hsz:vals.size=2:=oI.symm.trans (aF List.length t);show wpAny _ _ (standAt p>>=λ D=>unpack (.ref TT) [(false,λ v=>assign (.Name y f) env v),(false,λ v=>assign (.Name z H) env v)]) _ _ _;refine ag (cP (ag (bB ?_)));refine(?_:wpAny _ _ (unpackItems (.ref TT) 2 none) _ _ _);refine hsz▸?_;refine uc g T.rl I λ s' S=> ?_;refine t.symm▸?_;have h:=T.step S;rw[T.sg]at h;exact wpAny_assignInOrder_more (jE (dP h N (o.carry S.carry) λ aS M L=>wpAny_assignInOrder_more (jE (dP L G ((u.carry S.carry).carry M.carry) λ r w C=>ax (q r ((S.bC.trans (M.mono λ b U=>⟨y,i,.head _,U⟩)).trans (w.mono λ b U=>⟨z,j,.tail _ (.head _),U⟩)) C)))))
def wF{B U:aw}{Q:Unit->Shared->Prop}{M:Bool}{u:aj}{t:aQ}{v:V}{x:Value}(f:A.handled=none)(T:At J pg d k B Y A c s env)(I:xB k u t=true)(l:Hi M c s.heap v x)(C:lX M u v B=some U)(q:∀s',Step J c s c s' (zH env (cV u t))->At J pg d k U Y A c s' env->Q () s'):wpAny J.ay A (assign t env x) Q E s:=G1 (P:=λ u t=>lX M u v B=some U->(∀s',Step J c s c s' (zH env (cV u t))->At J pg d k U Y A c s' env->Q () s')->wpAny J.ay A (assign t env x) Q E s) I (λ y p i h C q=>iE C (λ o N r G=>by
   cases r
   subst N G
   exact jE (dP T h l λ s' S m=>q s' (S.mono λ b L=>⟨y,i,.head _,L⟩) m)) λ D D D D D e=>nomatch e)
  (λ y p1 z p2 n p i j H g C q=>iE C (λ D D e=>nomatch e) λ o j' a b N r G w=>by
   cases r
   subst N G w
   exact BK f T H g l q) C q
abbrev J5:dM:=λ D D=>False
noncomputable def BL(e:aQ)(depth:Nat)(it acc:Value)(env:Env)(target iter:aQ)(ifs:List aQ)(emit:Sem Unit):Sem Fin:=do
 standAt iter.pos
 match<-pyNext it with
 |none=>pure (.done .next)|some v=>
  letOwnedTupleGo target it v
  assign target env v
  let mut ok:=true
  for c in ifs do
   if ok then ok<-isTrue c env (eval c env)
  if ok then emit
  again (.compLoop e depth it acc env)
noncomputable def cE(sm:Bool)(elt:aQ)(gens:List Comprehension)(sc:Scope)(pos:Pos):aQ:=match sm with
 |false=> .ListComp elt gens sc pos|true=> .SetComp elt gens sc pos
noncomputable def Oo(sm:Bool):Sem Value:=match sm with
 |false=>newList []|true=>newSet (.type "set")
noncomputable def MQ(sm:Bool)(elt:aQ)(acc:Value)(env:Env):Sem Unit:=match sm with
 |false=>do let _<-call (.builtin "list.append") [acc,<-eval elt env]
 |true=>do let v<-eval elt env;standAt elt.pos;let _<-call (.builtin "set.add") [acc,v]
def Oq(sm:Bool)(elt t i:aQ)(fs:List aQ)(sc:Scope)(pos:Pos)(it acc:Value)(env:Env):compTurn (cE sm elt [⟨t,i,fs,0⟩] sc pos) 0 it acc env=BL (cE sm elt [⟨t,i,fs,0⟩] sc pos) 0 it acc env t i fs (MQ sm elt acc env):=by induction sm<;>rfl
section
variable{prog:Program}{w:World}{R:Result->Shared->Prop}
def vt{sm:Bool}{elt:aQ}{gens:List Comprehension}{sc:Scope}{pos:Pos}{depth:Nat}{it acc:Value}{target iter:aQ}{ifs:List aQ}{emit:Sem Unit}(heq:compTurn (cE sm elt gens sc pos) depth it acc env=BL (cE sm elt gens sc pos) depth it acc env target iter ifs emit)(I:Nat->Shared->Prop)(turn:∀n s,I n s->wpAny (model prog w) A (pyNext it) (λ r y=>match r with
   |none=>R (.ok .next) y|some v=>wpAny (model prog w) A (letOwnedTupleGo target it v) (λ D M=>wpAny (model prog w) A (assign target env v) (λ D j=>
     wpAny (model prog w) A (forIn ifs true λ c r=>if r=true then do let ok<-isTrue c env (eval c env);pure (ForInStep.yield ok)else pure (ForInStep.yield r)) (λ ok U=>match ok with
      |true=>wpAny (model prog w) A emit (λ D u=>∃m,m<n/\I m u) J5 U|false=>∃m,m<n/\I m U) J5 j) J5 M) J5 y) J5 s)
  (n:Nat)(h:I n s):codeAny (model prog w) A (.compLoop (cE sm elt gens sc pos) depth it acc env) R s:=by
 refine codeAny_loop (by induction sm<;>rfl) I (λ n s T=> ?_) n h;have hd:(model prog w).den (.compLoop (cE sm elt gens sc pos) depth it acc env)=(compTurn (cE sm elt gens sc pos) depth it acc env).onRaise (λ x=>do noteFrame x env;theTreesLotGoes x):=by induction sm<;>rfl
 refine hd.symm▸(show A.under (.compLoop (cE sm elt gens sc pos) depth it acc env)=A by induction sm<;>rfl).symm▸?_;refine wpAny_noted (wpAny_noRaise ?_);refine heq.symm▸?_;refine ag (cP (ag (aW (turn n s T) (λ r y L=> ?_) λ D D h'=>h')));induction r with
 |none=>exact ax L|some v=>refine ag (aW L (λ D M C=>ag (aW C (λ D j t=>ag (aW t (λ ok U p=> ?_) λ D D h'=>h')) λ D D h'=>h')) λ D D h'=>h');induction ok with
  |false=>exact ax ⟨rfl,p⟩|true=>exact ag (aW p (λ D u l=>ax ⟨rfl,l⟩) λ D D h'=>h')
end
noncomputable def Un(sm:Bool)(acc:aw):O:=match sm with
 |false=> .list acc|true=> .w7 (setOf acc)
def Acc(J:Cx)(sm:Bool)(c:Vw)(h:Heap)(D:Addr)(acc:aw):Prop:=dU J c h D [D] (Un sm acc)
def Acc.step{sm:Bool}{c G:Vw}{s s':Shared}{W:Addr->Prop}{b:Addr}{acc:aw}(a:Acc J sm c s.heap b acc)(R:Rel J c s)(S:Step J c s G s' W)(T:b∈c.y)(z:¬W b):Acc J sm G s'.heap b acc:=by induction sm with
 |false=>obtain⟨D,f,⟨n,e⟩,r⟩:=a;exact⟨rfl,f,⟨n,S.j6 R T z e⟩,r.carry S.carry⟩
 |true=>obtain⟨D,es,ep,t,e,g⟩:=a;exact⟨rfl,es,ep,t,S.j6 R T z e,g⟩
def BM{d:Addr}{acc:aw}{v:V}{x:Value}(R:Rel J c s)(a:Acc J false c s.heap d acc)(t:d∈c.y)(r:aE c s.heap v x)(I:acc.length<=300000){Q:dM}(q:∀s',Step J c s c s' (·=d)->Acc J false c s'.heap d (acc++[v])->Q .none s'):wpAny J.ay A (call (.builtin "list.append") [.ref d,x]) Q E s:=by
 obtain⟨D,g,⟨n,e⟩,f⟩:=a;obtain⟨k,h⟩:=Obj.data_mapSeq (o:={cls:= .type "list",dict:= .none,data:= .seq g.toArray n,slots:= #[]}) rfl (·.push x);refine lG slot_list_append (SeqAt.typeIs (T:="list") ⟨n,e⟩ rfl) entry_list_append ?_ (args_list_append _ _);show wpAny _ _ (updateSeq d (·.push x)>>=λ D=>ret .none) _ _ s;refine ag (wpAny_updateSeq e rfl (ax ⟨.none,rfl,?_⟩) (by refine cf.symm▸f.length▸aK.symm▸?_;exact aa I dD) (by rw[lK,cf,<-f.length,aK];exact bt I dD));have S:Step J c s c {s with heap:=s.heap.update d (Obj.mapSeq (·.push x))} (·=d):=R.other (·=d) (λ b o j U=>(jZ _ _ (Ne.symm U)).trans j)
  (λ b M=>by subst M;exact⟨(R.d5 b t).1,(R.d5 b t).2.2.1,(R.d5 b t).2.2.2,t⟩) (by skip;rw[vX];exact ah _) rfl rfl
 refine q _ S ⟨rfl,g++[x],⟨k,?_⟩,(f.carry S.carry).append ⟨r.carry S.carry,trivial⟩⟩;refine(Heap.get?_update_self _ e (by rfl)).trans ?_;simp only[Obj.mapSeq]at h⊢
 simp_all
def EP(acc:aw)(k:Int):setOf (acc++[.int k])=insI (setOf acc) k:=by delta setOf;rw[List.filterMap_append,List.foldl_append];rfl
def K7{D:Addr}{acc:aw}{k:Int}{x:Value}(R:Rel J c s)(a:Acc J true c s.heap D acc)(T:D∈c.y)(r:aE c s.heap (.int k) x)(u:0<=k/\k<1000){Q:dM}(q:∀s',Step J c s c s' (·=D)->Acc J true c s'.heap D (acc++[.int k])->Q .none s'):wpAny J.ay A (call (.builtin "set.add") [.ref D,x]) Q E s:=by obtain⟨t,rfl⟩:=r;refine good_add a.2 u λ h' H U=>q _ (R.other (·=D) (λ b o j e=>(H.2 b e).trans j) (λ b M=>by subst M;exact⟨(R.d5 b T).1,(R.d5 b T).2.2.1,(R.d5 b T).2.2.2,T⟩) (bO H.1.symm) rfl rfl) ⟨rfl,?_⟩;rw[EP];exact U
def gA(u:aj)(B v:aw):Prop:=B.length=v.length/\∀j,j∉u->B[j]? =v[j]?
def gA.trans{u:aj}{a b c:aw}(x:gA u a b)(y:gA u b c):gA u a c:=⟨x.1.trans y.1,λ j h=>(x.2 j h).trans (y.2 j h)⟩
def gA.symm{u:aj}{a b:aw}(x:gA u a b):gA u b a:=⟨x.1.symm,λ j h=>(x.2 j h).symm⟩
def gA.set{u:aj}{i:Nat}{v:V}(h:i∈u):gA u B (B.set i v):=⟨by simp,λ j t=>by rw[List.getElem?_set_ne];rintro rfl;exact t h⟩
def gA.asg{e:Bool}{u:aj}{B x:aw}{v:V}(h:lX e u v B=some x):gA u B x:=iE h (λ i D k d=>by rw[k,d];exact gA.set (.head _)) λ i j a b D k D d=>by rw[k,d];exact(gA.set (v:=a) (.head _)).trans (gA.set (v:=b) (.tail _ (.head _)))
def set_same{i:Nat}{u:aj}{a b:aw}{v:V}(x:gA (i::u) a b):gA u (a.set i v) (b.set i v):=⟨by rw[List.length_set,List.length_set,x.1],λ j t=>by
  rw[List.getElem?_set,List.getElem?_set,x.1]
  split
  ·rfl
  ·rename_i ne
   exact x.2 j λ h=>(aT.mp h).elim (λ e=>ne e.symm) t⟩
def gA.eq{a b:aw}(x:gA [] a b):a=b:=List.ext_getElem? λ j=>x.2 j (mn)
def Hp{e:Bool}{u:aj}{B w c:aw}{v:V}(x:gA u w B)(h:lX e u v B=some c):lX e u v w=some c:=iE h (λ i l k d=>by
  subst l k d
  exact aF some (set_same x).eq) λ i j a b l k N d=>by
  subst l k d N;exact aF some (set_same (set_same x)).eq
def ud{Q:Bool->Shared->Prop}(q:Q false s):∀(xs:List aQ),wpAny J.ay A (forIn xs false λ c r=>if r=true then do let ok<-isTrue c env (eval c env);pure (ForInStep.yield ok)else pure (ForInStep.yield r)) Q E s
 |[]=>ax q|x::xs=>by rw[iL];simp only[Bool.false_eq_true,if_false];exact ag (ax (ud q xs))
def zJ{ms:List ME}(hm:∀m∈ms,eZ J pg d m){xs:List aQ}{Q:Bool->Mem->Prop}(h:fP 1 k ms xs=true)(w:wTs J pg d ms Q B Y)(T:At J pg d k B Y A c s env):wpAny J.ay A (forIn xs true λ c r=>if r=true then do let ok<-isTrue c env (eval c env);pure (ForInStep.yield ok)else pure (ForInStep.yield r)) (y9 J c s Q) E s:=by induction ms generalizing xs Y c s with
 |nil=>exact(lq (α:=aQ) (l:=xs) (by induction xs<;>first|rfl|exact nf h))▸ax ⟨c,.refl T.rl,by exact T.sg▸w⟩|cons m ms z=>induction xs using lC with
  |nil=>exact nf h|cons x xs=>
   have h:=(wB h).2;rw[iL,ar rfl];refine ag (ag ((hm m (.head _) k x (λ q Y=>match q with
    |true=>wTs J pg d ms Q B Y|false=>Q false Y) B Y A E c s env h.1 w T).go λ b y c₁ S o=>ax ?_))
   induction b with
   |true=>exact zb.after S (z (λ n h'=>hm n (.tail _ h')) h.2 o (T.step S))|false=>exact ud ⟨c₁,S,o⟩ xs
def MR{a:Bool}{u:aj}{t:aQ}{v:V}{B b:aw}(h:xB k u t=true)(C:lX a u v B=some b):K2 a t=true:=G1 (P:=λ u t=>lX a u v B=some b->K2 a t=true) h (λ x p i D C=>iE C (λ D e D D=>by rw[e];rfl) λ D D D D D e=>nomatch e) (λ x c y L n p i j D D C=>iE C (λ D D e=>nomatch e) λ D D D D e D D D=>by rw[e];rfl) C
def zH.own{own:List (Str×Nat)}{b:Addr}(h:zH env own b):b=env.locals\/∃x,env.cells.lookup x=some b:=by obtain⟨x,i,D,⟨D,h⟩|⟨D,h⟩⟩:=h;exact .inl h;exact .inr ⟨x,h⟩
def Hq(J:Cx)(pg:Pg)(d:Nat)(a:Bool)(u:aj)(tests:List ME)(body:aw->(aw->Mem->Prop)->Mem->Prop)(B:aw)(v:V)(K:aw->Mem->Prop)(Y:Mem):Prop:=opt (lX a u v B) λ i=>wTs J pg d tests (λ b Y=>match b with
  |true=>body i K Y|false=>K [] Y) i Y
def MT(ys:List Addr)(env:Env)(own:List (Str×Nat))(Wm:Addr->Prop)(b:Addr):Prop:=b∈ys\/zH env own b\/Wm b
inductive K8(J:Cx)(pg:Pg)(d:Nat)(sm:Bool)(A:Around)(k:CC)(env:Env)(B:aw)(D:Addr)(acc:aw)(Wm:Addr->Prop)(P:aw->Mem->Prop)(c:Vw)(s s':Shared):Prop
 |mk (c':Vw) (rs:aw) (S:Step J c s c' s' Wm) (T:At J pg d k B c'.Y A c' s' env) (ac:Acc J sm c' s'.heap D (acc++rs)) (p:P rs c'.Y):K8 J pg d sm A k env B D acc Wm P c s s'
inductive Dj(J:Cx)(pg:Pg)(d:Nat)(sm:Bool)(A:Around)(k:CC)(env:Env)(B:aw)(tg:aj)(D:Addr)(acc₀:aw)(W:Addr->Prop)(St:Nat->Vw->Heap->Prop)(len:Nat)(P:Nat->aw->Mem->Prop)(c:Vw)(s:Shared)(n:Nat)(s':Shared):Prop
 |mk (i:Nat) (acc:aw) (c':Vw) (bj:aw) (hn:n=len-i) (hi:i<=len) (S:Step J c s c' s' W) (T:At J pg d k bj c'.Y A c' s' env) (hs:gA tg bj B) (st:St i c' s'.heap) (ac:Acc J sm c' s'.heap D (acc₀++acc)) (w:P i acc c'.Y):Dj J pg d sm A k env B tg D acc₀ W St len P c s n s'
def BN(hh:A.handled=none){y:Env}{sm:Bool}{elt:aQ}{gens:List Comprehension}{sc:Scope}{pos:Pos}{depth:Nat}{target iter:aQ}{ifs:List aQ}{emit:Sem Unit}{tests:List ME}{pr:Bool}{u:aj}{I e:Addr}{ys:List Addr}{vs:aw}{g:Mem->Prop}{St:Nat->Vw->Heap->Prop}{Md:Nat->Value->Vw->Heap->Prop}{Wm:Addr->Prop}{R:Result->Shared->Prop}(heq:compTurn (cE sm elt gens sc pos) depth (.ref I) (.ref e) y=BL (cE sm elt gens sc pos) depth (.ref I) (.ref e) y target iter ifs emit)(p:dE J A pr I ys vs g St Md)(Wi:xB k u target=true)(QW:∀m∈tests,eZ J pg d m)(S5:fP 1 k tests ifs=true){B:aw}{body:aw->(aw->Mem->Prop)->Mem->Prop}{K:aw->Mem->Prop}{acc₀:aw}(H:e≠y.locals/\(∀x,y.cells.lookup x≠some e)/\e∉ys)(l:∀b∈ys,b≠y.locals/\(∀x,y.cells.lookup x≠some b)/\¬Wm b)(X1:∀v c s K9(P:aw->Mem->Prop),gA u B v->At J pg d k v c.Y A c s y->Acc J sm c s.heap e K9->e∈c.y->K9.length<=acc₀.length+100000->body v P c.Y->wpAny J.ay A emit (λ D s'=>K8 J pg d sm A k y v e K9 Wm P c s s') J5 s){c:Vw}{s:Shared}{eD:aw}(p9:gA u eD B)(T:At J pg d k eD c.Y A c s y)(mh:St 0 c s.heap)(hy:∀b∈ys,b∈c.y)(S6:e∈c.y)(ha:Acc J sm c s.heap e acc₀)(w:compLoop (Hq J pg d pr u tests body B) g vs K [] c.Y)(hR:∀G s' o v,Step J c s G s' (MT ys y (cV u target) Wm)->At J pg d k v G.Y A G s' y->gA u v B->Acc J sm G s'.heap e (acc₀++o)->K o G.Y->R (.ok .next) s'):codeAny J.ay A (.compLoop (cE sm elt gens sc pos) depth (.ref I) (.ref e) y) R s:=by
 have nl:¬(y.locals∈ys):=λ h=>(l _ h).1 rfl;have nc:∀x a,y.cells.lookup x=some a->¬(a∈ys):=λ x a hl h=>(l a h).2.1 x hl;have nd:∀b∈ys,¬zH y (cV u target) b:=λ b U h=>h.own.elim (l b U).1 λ⟨x,h⟩=>(l b U).2.1 x h;refine vt heq (Dj J pg d sm A k y B u e acc₀ (MT ys y (cV u target) Wm) St vs.length (λ i acc Y=>compLoop (Hq J pg d pr u tests body B) g (vs.drop i) K acc Y) c s) (λ n s' h=> ?_) vs.length ⟨0,[],c,eD,rfl,cI _,.refl T.rl,T,p9,mh,by rw[dw];exact ha,w⟩;obtain⟨i,acc,G,v,hn,hi,S,t,mZ,st,ac,Q⟩:=h;have E:∀b∈ys,b∈G.y:=λ b U=>S.y b (hy b U);have M:e∈G.y:=S.y e S6;rcases lF hi with L|rfl;rw[qV L]at Q;refine dt Q.2.2 λ fn q aG=> ?_;refine p.item i G s' _ _ L t.rl E st Q.1 λ x aq j md=>p.go i vs[i] target x G aq _ _ (gN L) (MR Wi q) j.rel E md λ aS aL iv Hs=> ?_;have N:=j.trans aL;refine wF hh (t.wD N nl nc) Wi iv (Hp mZ q) λ bw f f7=>zb.go (zJ QW S5 aG f7) λ b lD C r EF=> ?_;have MV:=((ac.step t.rl N M H.2.2).step N.rel f M λ h=>h.own.elim H.1 λ⟨x,h⟩=>H.2.1 x h).step f.rel r M (λ h=>h);have Dk:=p.keep (i+1) G bw C lD _ f.rel E (p.keep (i+1) G aS G bw _ N.rel E Hs f nd) r (λ D D h=>h);have Dl:=S.trans (((N.mono λ b U=> .inl U).trans (f.mono λ b U=> .inr (.inl U))).trans r.bC);have hm:vs.length-(i+1)<n:=by exact hn▸Nat.sub_lt_sub_left L (bz _)
 induction b with
 |false=>exact⟨_,hm,i+1,acc,C,fn,rfl,L,Dl,f7.step r,(gA.asg q).symm,Dk,MV,dw acc▸EF⟩|true=>refine aW (X1 fn C lD (acc₀++acc) _ (gA.asg q) (f7.step r) MV (r.y e M) ?_ EF) (λ D mf h=> ?_) λ D D z=>z;exact bH▸mY (ae Q.2.1) _;obtain⟨ka,o,fb,qB,QX,Uo⟩:=h;exact⟨_,hm,i+1,acc++o,ka,fn,rfl,L,Dl.trans (fb.mono λ b U=> .inr (.inr U)),qB,(gA.asg q).symm,p.keep (i+1) C lD ka mf _ r.rel (λ b U=>r.y b (E b U)) Dk fb (λ b U=>(l b U).2.2),by rw[<-hZ];exact QX,Uo⟩
 rw[List.drop_length]at Q;exact p.done G s' _ _ t.rl E st Q.1 λ aq j=>hR G aq acc v (S.trans (j.mono λ b U=> .inl U)) (t.wD j nl nc) mZ (ac.step t.rl j M H.2.2) Q.2
def Ht(t:aj)(B:aw)(j:Nat):(GN t B)[j]? =if j∈t then B[j]?.map (λ D=>V.aC)else B[j]? :=by induction t generalizing B with
 |nil=>rfl|cons i t z=>refine(z (B.set i .aC)).trans ?_;rw[List.getElem?_set];by_cases N:i=j;subst N;rw[ar rfl,ar (gM ..)];by_cases h:i<B.length;rw[ar h,gN h];split<;>rfl;rw[au h,sX (Nat.le_of_not_lt h)];split<;>rfl;rw[au N];by_cases h:j∈t;rw[ar h,ar (.tail _ h)];rw[au h,au λ q=>(aT.mp q).elim (λ e=>N e.symm) h]
def Hu(t:aj)(B:aw):(GN t B).length=B.length:=by induction t generalizing B with
 |nil=>rfl|cons i t z=>show(GN t (B.set i .aC)).length=_;rw[z];simp
def zK(own:List (Str×Nat))(B:aw):unbind own B=GN (own.map (·.2)) B:=by induction own generalizing B with
 |nil=>rfl|cons p r z=>exact z _
def ER(t B):gA t (GN t B) B:=⟨Hu _ _,λ j l=>by rw[Ht,au l]⟩
def ES{u:aj}{t:aQ}(h:xB k u t=true):(cV u t).map (·.2)=u:=G1 (P:=λ u t=>(cV u t).map (·.2)=u) h (λ D D D D=>rfl) λ D D D D D D D D D D=>rfl
def MW(sm:Bool)(P:aw->Mem->Prop)(r:V)(Y:Mem):Prop:=match sm with
 |false=>P [r] Y|true=>isInt r λ k=>(decide (0<=k)&&decide (k<1000))=true/\P [r] Y
def zM{sm:Bool}{elt:aQ}{m:ME}(hm:aH J pg d m)(n:b4 0 k m elt=true){b:Addr}(G:b≠env.locals/\∀x,env.cells.lookup x≠some b){B:aw}{c:Vw}{s:Shared}{acc:aw}{P:aw->Mem->Prop}(T:At J pg d k B c.Y A c s env)(C:Acc J sm c s.heap b acc)(t:b∈c.y)(I:acc.length<=200000)(w:wE J pg d m (MW sm P) B c.Y):wpAny J.ay A (MQ sm elt (.ref b) env) (λ D s'=>K8 J pg d sm A k env B b acc (·=b) P c s s') J5 s:=by have fin:∀{c₁:Vw}{y M:Shared}{v:V},Step J c s c₁ y cN->Step J c₁ y c₁ M (·=b)->Acc J sm c₁ M.heap b (acc++[v])->P [v] c₁.Y->K8 J pg d sm A k env B b acc (·=b) P c s M:=λ S U N p=>⟨_,[_],S.bC.trans U,(T.step S).wD U (λ h=>G.1 h.symm) (λ x a I h=>G.2 x (h▸I)),N,p⟩;induction sm with
 |false=>exact ag ((hm k elt _ B c.Y A J5 c s env n w T).go λ x y c₁ v S r p=>ag (BM S.rel (C.step T.rl S t (λ h=>h)) (S.y b t) r (aa I dD) λ M U N=>ax (fin S U N p)))|true=>exact ag ((hm k elt _ B c.Y A J5 c s env n w T).go λ x y c₁ v S r p=>Bu p λ i e p=>by subst e;exact ag (cP (ag (K7 S.rel (C.step T.rl S t (λ h=>h)) (S.y b t) r ⟨ae (ao p.1).1,ae (ao p.1).2⟩ λ M U N=>ax (fin S U N p.2)))))
def ue{R:Result->Shared->Prop}{sm:Bool}{elt:aQ}{gens:List Comprehension}{sc:Scope}{pos:Pos}{depth:Nat}{I:Addr}{acc:Value}{t i:aQ}{fs:List aQ}(U:gens[depth]? =some ⟨t,i,fs,0⟩)(hi:∀(Q:dM)(E:dM),Q (.ref I) s->wpAny J.ay A (pyIter (.ref I)) Q E s)(q:codeAny J.ay A (.compLoop (cE sm elt gens sc pos) depth (.ref I) acc env) R s):codeAny J.ay A (.compStart (cE sm elt gens sc pos) depth (.ref I) acc env) R s:=by
 apply codeAny_of_tree;rw[show J.ay.den (.compStart (cE sm elt gens sc pos) depth (.ref I) acc env)=(compStart (cE sm elt gens sc pos) depth (.ref I) acc env).onRaise (λ x=>do noteFrame x env;standAt theWindowsPlace) by induction sm<;>rfl,show A.under (.compStart (cE sm elt gens sc pos) depth (.ref I) acc env)=A by induction sm<;>rfl];apply wpAny_notedAt;unfold compStart;have e:(clausesOf (cE sm elt gens sc pos))[depth]? =some ⟨t,i,fs,0⟩:=by induction sm<;>exact U
 rw[e];show wpAny _ _ (ask>>=_) _ _ s;refine ag (sU (wpAny_ite ?_));split;first
  |exact ag (ax (ax (And.intro rfl q)))
  |exact ax (And.intro rfl q)
 first
  |exact ag (wpAny_rule (ag (cP (ag (hi _ _ (ax (And.intro rfl q)))))))
  |(refine ag (wpAny_rule ?_);show wpAny _ _ (standAt i.pos>>=_) _ _ s;exact ag (cP (ag (hi _ _ (ax (And.intro rfl q))))))
def Step.freshen{c G:Vw}{s s':Shared}{W W':Addr->Prop}(R:Rel J c s)(S:Step J c s G s' W')(h:∀b,W' b->W b\/s.heap.objs.size<=b):Step J c s G s' W:=(Step.refl (W:=W) R).fresh S h
structure Got(J:Cx)(sm:Bool)(c:Vw)(s:Shared)(D C:Addr)(rs:aw)(c':Vw)(s':Shared):Prop where
 S:Step J c s c' s' (λ b=>s.heap.objs.size<=b)
 hD:s.heap.objs.size<=D
 hC:s.heap.objs.size<=C
 ne:D≠C
 yD:D∈c'.y
 yC:C∈c'.y
 ac:Acc J sm c' s'.heap D rs
 ns:∃m,s'.heap.Ns C m
def y8.ns(H:y8 env h):∃m,h.Ns env.locals m:=by obtain⟨o,es,ep,e,hd,C⟩:=H.loc;exact⟨_,o,es,ep,e,hd,C,λ D=>rfl⟩
inductive Ready(J:Cx)(pg:Pg)(d:Nat)(sm:Bool)(A:Around)(k:CC)(sc:Scope)(own:List (Str×Nat))(B:aw)(s:Shared)(P:Bool×aw×(Mem->Prop)->Mem->Prop)(I D:Addr)(eQ:Env)(c₀:Vw)(fR:Shared):Prop
 |mk (ys:List Addr) (St:Nat->Vw->Heap->Prop) (Md:Nat->Value->Vw->Heap->Prop) (x:Bool×aw×(Mem->Prop)) (Tn:∀A':Around,A'.handled=none->dE J A' x.1 I ys x.2.1 x.2.2 St Md) (T:At J pg d (k.inner sc own) (unbind own B) c₀.Y A c₀ fR eQ) (st:St 0 c₀ fR.heap) (nZ:∀b∈ys,b∈c₀.y/\s.heap.objs.size<=b/\b<D) (S6:D∈c₀.y) (Wj:s.heap.objs.size<=D) (Zj:D<eQ.locals) (Uq:∀x,eQ.cells.lookup x≠some D) (Wk:∀b∈ys,∀x,eQ.cells.lookup x≠some b) (kU:∀x b,(own.lookup x).isSome=true->Eh eQ x b->s.heap.objs.size<=b) (ac:Acc J sm c₀ fR.heap D []) (p:P x c₀.Y):Ready J pg d sm A k sc own B s P I D eQ c₀ fR
def BO{sc:Scope}{own:List (Str×Nat)}(T:At J pg d k B Y A c s env)(G:jy k sc own=true){x:Str}(L:(x,NameKind.free)∈sc.names):(env.cells.lookup x).isSome=true:=by
 have w:env.kindOf x=some .cell->(env.cells.lookup x).isSome=true:=λ q=>by obtain⟨a,D,I,D⟩:=T.en.H.cell x q;rw[I];rfl
 rcases(nY G).2.2.2 x .free L with z|z|z;exact z.1.elim (λ z=>TB z) λ z=>TB z;exact z.2.2.elim (λ q=>w (T.kd.c x q)) λ q=>(T.kd.f x q).elim (T.en.SP x) w;exact TB z
def Hw{sc:Scope}{cl:List (Str×Addr)}{n m:Nat}(N:∀x a,(x,a)∈cl->a<m)(b:Addr)(U:b<=n)(H:m<=b)(x:Str):(rR sc cl n env).cells.lookup x≠some b:=λ e=>by have M:(cellsFrom (n+1) sc.names cl).lookup x=some b:=e;rw[gw]at M;cases q:(cellsFrom (n+1) sc.names []).lookup x with
 |some a=>rw[q]at M;rw[<-show a=b from aN M]at U;exact aD U (mi (lookup_mem q)).2|none=>rw[q]at M;exact aD H (N x b (lookup_mem M))
def ET(ok:bp J)(sm:Bool)(T:At J pg d k B Y A c s env){elt t i:aQ}{fs:List aQ}{rest:List Comprehension}{sc:Scope}{own:List (Str×Nat)}{pos:Pos}{it:ME}(hi:jO J pg d it)(S5:b4 2 k it i=true)(L:jy k sc own=true){P:Bool×aw×(Mem->Prop)->Mem->Prop}(w:wE J pg d it (λ vi Y=>opt (jx Y vi) λ x=>P x Y) B Y){use:Option (Value->Sem Unit)}{Q:dM}{K:aw->Mem->Prop}(loop:∀I f y c₀ N(R:Result->Shared->Prop),Ready J pg d sm A k sc own B s P I f y c₀ N->(∀G s' m bj,Step J c₀ N G s' (λ b=>s.heap.objs.size<=b)->At J pg d (k.inner sc own) bj G.Y A G s' y->Acc J sm G s'.heap f m->K m G.Y->R (.ok .next) s')->codeAny J.ay A (.compLoop (cE sm elt (⟨t,i,fs,0⟩::rest) sc pos) 0 (.ref I) (.ref f) y) R N)(fin:∀f C m G s',Got J sm c s f C m G s'->K m G.Y->compPost J.ay A E use Q (.ref f) C (.ok .next) s'):wpAny J.ay A (comprehension (cE sm elt (⟨t,i,fs,0⟩::rest) sc pos) sc env (firstIterPos (⟨t,i,fs,0⟩::rest) pos) (Oo sm) (firstAsync (⟨t,i,fs,0⟩::rest)) (firstIter (⟨t,i,fs,0⟩::rest) env) use) Q E s:=by
 have PZ:=nY L;obtain⟨cl,yU,h1,h2⟩:=BI λ x=>BO T L;refine wpAny_comprehension_free (cl:=cl) (by induction sm<;>rfl:clausesOf (cE sm elt (⟨t,i,fs,0⟩::rest) sc pos)=⟨t,i,fs,0⟩::rest) (λ x=>qA S5 x) yU PZ.1 (λ x H hl=>ba PZ.2.1 (hl▸H)) ?_;refine aW (hi k i P B Y A E c s env S5 w T) (λ x aq eJ=>aW eJ (λ it M cK=> ?_) λ D D z=>z) λ D D z=>z;obtain⟨I,ys,St,Md,x,c₂,M,S,l,v,st,p⟩:=cK;have Ur:∀{A:Around}{E:dM}{Q:dM},(∀o,o.isFreed=false->(∀(G:Vw)(h':Heap),h'.get? M.heap.objs.size=some o->Acc J sm G h' M.heap.objs.size [])->Q (.ref M.heap.objs.size) {M with heap:=M.heap.push o})->wpAny J.ay A (Oo sm) Q E M:=λ{A E Q} q=>by induction sm with
  |false=>exact j3 (q _ rfl λ G h' e=>⟨rfl,[],⟨0,e⟩,trivial⟩)|true=>exact Gi λ o hf g=>q o hf λ G h' e=>⟨rfl,g h' e⟩
 refine Ur λ o hf ho=> ?_;have j:=BG S.rel o M.toks;have u:M.heap.objs.size<(M.heap.push o).objs.size:=by rw[b9];exact bz _
 refine t8 ?_;rw[List.forIn_nil];obtain⟨Zk,hL,X2,r,La,kU,Us⟩:=K6 ((T.step S).step j) L (own:=own) h1 h2 {cls:= .type "dict",data:= .dict #[]} rfl;have QZ:∀b∈ys,b<M.heap.objs.size:=λ b U=>(S.rel.d5 b (l b U).1).2.1;have Wl:=(v A T.rm.1).keep 0 _ _ _ _ _ j.rel (λ b U=>j.y b (l b U).1) ((v A T.rm.1).keep 0 _ _ _ _ _ S.rel (λ b U=>(l b U).1) st j (λ D D h=>h)) r (λ D D h=>h);have MX:=Hw (env:=env) (sc:=sc) (n:=(M.heap.push o).objs.size) λ x a h=>(T.en.seen x a (h1 x a h).2).2.2;exact ax (ue (sm:=sm) (t:=t) (i:=i) (fs:=fs) rfl (λ Q E q=>(v A T.rm.1).self 0 _ _ Q E Wl q) (loop I M.heap.objs.size _ _ _ _ ⟨ys,St,Md,x,v,La,Wl,λ b U=>⟨r.y b (j.y b (l b U).1),(l b U).2,QZ b U⟩,r.y _ (.head _),S.size,u,MX _ (bo u) S.size,λ b U=>MX b (bo (fz (QZ b U) u)) (l b U).2,λ x b H U=>aa S.size (aa (bo u) (kU x b H U)),Acc.step (ho _ _ (bS _ hf)) j.rel r (.head _) (λ h=>h),p⟩ λ G s' m bj fb qB Ut kq=>fin _ _ m G s' ⟨((S.trans (j.trans r)).bC.trans fb),S.size,aa S.size (bo u),az u,fb.y _ (r.y _ (.head _)),fb.y _ (fH _ hL),Ut,qB.en.H.ns⟩ kq))
structure EV(c c':Vw):Prop where
 n:c.Y.n<=c'.Y.n
 ρ:∀i,i<c.Y.n->c'.ρ i=c.ρ i
 N:∀b,c'.N b->c.N b
def EV.tr{c G:Vw}(k:EV c G)(h:Heap):Tr c h G h:=⟨k.n,k.ρ,λ D s nt=>⟨s,λ q=>nt (k.N _ q)⟩⟩
def aA.view{c G:Vw}(k:EV c G){vs:aw}{xs:aI}(r:aA c h vs xs):aA G h vs xs:=r.map (k.tr h)
def dU.view{c G:Vw}{a:Addr}{fp:List Addr}{o:O}(k:EV c G)(L:G.x=c.x)(r:dU J c h a fp o):dU J G h a fp o:=r.map (k.tr h) (λ b U=>⟨L▸U,λ D e=>e⟩) λ D D D e=>e
noncomputable def Vw.drop(c:Vw)(D:Addr):Vw:={c with y:=c.y.filter λ b=> !decide (b=D)}
noncomputable def Vw.adopt(c:Vw)(D:Addr)(o:O):Vw:={ρ:=λ i=>if i=c.Y.n then D else c.ρ i,fp:=λ i=>if i=c.Y.n then[D]else c.fp i,x:=c.x,y:=c.y.filter λ b=> !decide (b=D),z:=c.z,Y:=c.Y.alloc o}
def cT{D b:Addr}:b∈(c.y.filter λ b=> !decide (b=D))↔b∈c.y/\b≠D:=by simp
def xP(c:Vw)(a:Addr):EV c (c.drop a):=⟨ah _,λ D D=>rfl,λ b U=>by
 rcases U with t|h|h
 ·exact .inl t
 ·exact .inr (.inl (cT.mp h).1)
 ·exact .inr (.inr h)⟩
def Rel.drop(R:Rel J c s)(D:Addr):Rel J (c.drop D) s where
 base:=R.base
 tab:=R.tab
 lT:=R.lT
 size:=R.size
 obj:=λ i hi=>(R.obj i hi).view (xP c D) rfl
 apart:=R.apart
 high:=R.high
 oD:=R.oD
 d5:=λ b U=>R.d5 b (cT.mp U).1
 d6:=λ b U=>⟨(R.d6 b U).1,(R.d6 b U).2.1,(R.d6 b U).2.2.1,(R.d6 b U).2.2.2.1,λ q=>(R.d6 b U).2.2.2.2 (cT.mp q).1⟩
 gens:=R.gens
 os:=R.os
def mP{D:Addr}{o:O}{b:Addr}(t:(c.adopt D o).T b):c.T b\/b=D:=by
 obtain⟨j,⟨l,hd⟩,U⟩:=t;by_cases e:j=c.Y.n
 right
 have:(c.adopt D o).fp j=[D]:=ar e;rw[this]at U;exact bX.mp U
 left
 have M:(c.adopt D o).fp j=c.fp j:=au e;have N:(c.adopt D o).Y.f j=c.Y.f j:=au e;rw[M]at U;rw[N]at hd;exact⟨j,⟨oG (iG l) e,hd⟩,U⟩
def uf{D:Addr}{o:O}(T:D∈c.y):EV c (c.adopt D o):=⟨bR _,λ i hi=>au (az hi),λ b U=>by
  rcases U with t|h|h
  ·rcases mP t with t|rfl
   ·exact .inl t
   ·exact .inr (.inl T)
  ·exact .inr (.inl (cT.mp h).1)
  ·exact .inr (.inr h)⟩
def Rel.adopt(R:Rel J c s){D:Addr}(T:D∈c.y){o:O}(C:dU J c s.heap D [D] o):Rel J (c.adopt D o) s where
 base:=R.base
 tab:=R.tab
 lT:=R.lT
 size:=R.size
 obj:=λ i hi=>by by_cases e:i=c.Y.n;subst e;have M:(c.adopt D o).ρ c.Y.n=D:=ar rfl;have N:(c.adopt D o).fp c.Y.n=[D]:=ar rfl;have l:(c.adopt D o).Y.f c.Y.n=o:=ar rfl;refine M.symm▸N.symm▸l.symm▸?_;exact C.view (uf T) rfl;have M:(c.adopt D o).ρ i=c.ρ i:=au e;have N:(c.adopt D o).fp i=c.fp i:=au e;have l:(c.adopt D o).Y.f i=c.Y.f i:=au e;refine M.symm▸N.symm▸l.symm▸?_;exact(R.obj i (oG (iG hi) e)).view (uf T) rfl
 apart:=λ i j hi d ne b U a=>by
  have fresh:∀{j:Nat},(c.adopt D o).live j->j≠c.Y.n->c.live j:=λ{j} d e=>by refine⟨oG (iG d.1) e,?_⟩;have l:(c.adopt D o).Y.f j=c.Y.f j:=au e;exact l▸d.2
  by_cases e:i=c.Y.n;by_cases G:j=c.Y.n;exact ne (e.trans G.symm);have M:(c.adopt D o).fp i=[D]:=ar e;have N:(c.adopt D o).fp j=c.fp j:=au G;rw[M]at U;rw[N]at a;have:b=D:=by exact bX.mp U
  subst this;exact(R.d5 b T).2.2.1 (Rel.dH (fresh d G) a);have M:(c.adopt D o).fp i=c.fp i:=au e;rw[M]at U;by_cases G:j=c.Y.n;have N:(c.adopt D o).fp j=[D]:=ar G;rw[N]at a;have:b=D:=by exact bX.mp a
  subst this;exact(R.d5 b T).2.2.1 (Rel.dH (fresh hi e) U);have N:(c.adopt D o).fp j=c.fp j:=au G;rw[N]at a;exact R.apart i j (fresh hi e) (fresh d G) ne b U a
 high:=λ b t=>by rcases mP t with t|rfl;exact R.high b t;exact⟨(R.d5 b T).1,(R.d5 b T).2.1⟩
 oD:=λ b U=>⟨(R.oD b U).1,(R.oD b U).2.1,λ t=>by
  rcases mP t with t|rfl
  ·exact(R.oD b U).2.2 t
  ·exact(R.d5 b T).2.2.2 U⟩
 d5:=λ b U=>⟨(R.d5 b (cT.mp U).1).1,(R.d5 b (cT.mp U).1).2.1,λ t=>by
  rcases mP t with t|e
  ·exact(R.d5 b (cT.mp U).1).2.2.1 t
  ·exact(cT.mp U).2 e,(R.d5 b (cT.mp U).1).2.2.2⟩
 d6:=λ b U=>⟨(R.d6 b U).1,(R.d6 b U).2.1,λ t=>by
  rcases mP t with t|rfl
  ·exact(R.d6 b U).2.2.1 t
  ·exact(R.d6 b U).2.2.2.2 T,(R.d6 b U).2.2.2.1,λ q=>(R.d6 b U).2.2.2.2 (cT.mp q).1⟩
 gens:=R.gens
 os:=R.os
def Got.quiet{sm:Bool}{D C:Addr}{E:aw}{I:Vw}{s':Shared}(G:Got J sm c s D C E I s'){h':Heap}(H:Heap.SameBut C s'.heap h'):Step J c s I {s' with heap:=h'} (λ b=>s.heap.objs.size<=b)/\Acc J sm I h' D E:=by have R:=G.S.rel;have S:Step J I s' I {s' with heap:=h'} (·=C):=R.other (·=C) (λ b o e k=>(H.2 b k).trans e) (λ b U=>by subst U;exact⟨(R.d5 b G.yC).1,(R.d5 b G.yC).2.2.1,(R.d5 b G.yC).2.2.2,G.yC⟩) (bO H.1.symm) rfl rfl;exact⟨G.S.trans (S.mono λ b U=>by subst U;exact G.hC),G.ac.step R S G.yD G.ne⟩
def Got.list(R:Rel J c s){a C:Addr}{E:aw}{G:Vw}{s':Shared}(S:Step J c s G s' (λ b=>s.heap.objs.size<=b))(M:s.heap.objs.size<=a)(d:a∈G.y)(ac:Acc J false G s'.heap a E):Step J c s (G.drop a) s' cN/\aE (G.drop a) s'.heap (.list E) (.ref a):=by have l:=(xP G a).N;refine⟨⟨S.rel.drop a,⟨S.carry.n,S.carry.ρ,S.carry.fp,S.carry.old,λ b U h=>S.carry.y0 b U (l b h),S.carry.seq⟩,S.x,S.ta,λ b U=>cT.mpr ⟨S.y b U,λ e=> ?_⟩,S.z,S.qi,λ b o e nt D np Q=>S.kept b o e nt (fB.mpr (b6 e)) np Q,λ b o e I D=>S.j5 b o e I (fB.mpr (b6 e)),S.size⟩,?_⟩;exact aD M (e▸(R.d5 b U).2.1);obtain⟨D,f,u,r⟩:=ac;refine⟨a,f,rfl,u,?_,r.view (xP G a)⟩;rintro(t|h|h);exact(S.rel.d5 a d).2.2.1 t;exact(cT.mp h).2 rfl;exact(S.rel.d6 a h).2.2.2.2 d
def Got.zF(R:Rel J c s){a C:Addr}{o:O}{G:Vw}{s':Shared}(S:Step J c s G s' (λ b=>s.heap.objs.size<=b))(M:s.heap.objs.size<=a)(d:a∈G.y)(ac:dU J G s'.heap a [a] o):Step J c s (G.adopt a o) s' cN/\aE (G.adopt a o) s'.heap (.ref G.Y.n) (.ref a):=by have le:=uf (o:=o) d;refine⟨⟨S.rel.adopt d ac,⟨aa S.carry.n le.n,λ i hi=>(le.ρ i (ai hi S.carry.n)).trans (S.carry.ρ i hi),λ i hi=> ?_,λ b U t=> ?_,λ b U h=>S.carry.y0 b U (le.N b h),S.carry.seq⟩,S.x,S.ta,λ b U=>cT.mpr ⟨S.y b U,λ e=> ?_⟩,S.z,S.qi,λ b o e nt D np l=>S.kept b o e nt (fB.mpr (b6 e)) np l,λ b o e N D=>S.j5 b o e N (fB.mpr (b6 e)),S.size⟩,?_⟩;exact(show(G.adopt a o).fp i=G.fp i from au (az (ai hi S.carry.n))).trans (S.carry.fp i hi);rcases mP t with t|rfl;exact S.carry.old b U t;exact absurd U (aD M);exact aD M (e▸(R.d5 b U).2.1);refine⟨bz _,?_⟩;refine(?_:_=Value.ref (if G.Y.n=G.Y.n then _ else _));exact(ar rfl).symm▸rfl
def wH(mt:Bool)(E:aw)(Q:fA)(Y:Mem):Prop:=match mt with
 |false=>Q (.list E) Y|true=>Q (.ref Y.n) (Y.alloc (.list E))
def Lb(R:Rel J c s){mt:Bool}{D:Addr}{E:aw}{G:Vw}{s':Shared}(S:Step J c s G s' (λ b=>s.heap.objs.size<=b))(h:s.heap.objs.size<=D)(d:D∈G.y)(ac:Acc J false G s'.heap D E)(q:wH mt E Q G.Y):gj J c s Q (.ref D) s':=by induction mt with
 |false=>obtain⟨w,r⟩:=Got.list (C:=D) R S h d ac;exact⟨_,_,w,r,q⟩
 |true=>obtain⟨w,r⟩:=Got.zF (C:=D) R S h d ac;exact⟨_,_,w,r,q⟩
def Hx(R:Rel J c s){mt:Bool}{D:Addr}{E:aw}{G:Vw}{s':Shared}(S:Step J c s G s' (λ b=>s.heap.objs.size<=b))(h:s.heap.objs.size<=D)(d:D∈G.y)(ac:Acc J false G s'.heap D E)(q:wH mt E Q G.Y):∃j v,Step J c s j s' cN/\aE j s'.heap v (.ref D)/\Q v j.Y/\∀b∈G.y,b≠D->b∈j.y:=by induction mt with
 |false=>obtain⟨w,r⟩:=Got.list (C:=D) R S h d ac;exact⟨_,_,w,r,q,λ b U ne=>cT.mpr ⟨U,ne⟩⟩
 |true=>obtain⟨w,r⟩:=Got.zF (C:=D) R S h d ac;exact⟨_,_,w,r,q,λ b U ne=>cT.mpr ⟨U,ne⟩⟩
def BP{own:List (Str×Nat)}{x:Str}{i:Nat}(h:(x,i)∈own):(own.lookup x).isSome=true:=eh h
def Lc{z:Env}{own I:List (Str×Nat)}(i:∀x b,(own.lookup x).isSome=true->Eh z x b->s.heap.objs.size<=b)(H:∀p∈I,p∈own){b:Addr}(h:zH z I b):s.heap.objs.size<=b:=let⟨x,_,L,U⟩:=h;i x b (BP (H _ L)) U
def n7(ok:bp J)(sm:Bool)(T:At J pg d k B Y A c s env){elt:ME}{u:aj}{it:ME}{tests:List ME}(he:aH J pg d elt)(hi:jO J pg d it)(M:∀m∈tests,eZ J pg d m){e t i:aQ}{fs:List aQ}{sc:Scope}{pos:Pos}(N:b4 2 k it i=true)(y:jy k sc (cV u t)=true)(l:xB (k.inner sc (cV u t)) u t=true)(g:fP 1 (k.inner sc (cV u t)) tests fs=true)(n:b4 0 (k.inner sc (cV u t)) elt e=true){H:aw->Mem->Prop}(w:wE J pg d it (λ vi Y=>opt (jx Y vi) λ x=>compLoop (Hq J pg d x.1 u tests (λ v K Y=>wE J pg d elt (MW sm K) v Y) B) x.2.2 x.2.1 H [] Y) B Y){use:Option (Value->Sem Unit)}{Q:dM}(fin:∀a C f G s',Got J sm c s a C f G s'->H f G.Y->compPost J.ay A E use Q (.ref a) C (.ok .next) s'):wpAny J.ay A (comprehension (cE sm e [⟨t,i,fs,0⟩] sc pos) sc env (firstIterPos [⟨t,i,fs,0⟩] pos) (Oo sm) (firstAsync [⟨t,i,fs,0⟩]) (firstIter [⟨t,i,fs,0⟩] env) use) Q E s:=by refine ET ok sm T hi N y w (λ I a eQ c₀ fR R h r=> ?_) fin;obtain⟨ys,St,Md,x,o,Uu,st,j,S6,Wj,z,L,Wk,kU,ac,p⟩:=h;refine BN (acc₀:=[]) (B:=B) (Wm:=(·=a)) T.rm.1 (Oq sm ..) (o A T.rm.1) l M g ⟨az z,L,λ q=>iI _ (j a q).2.2⟩ (λ b U=>⟨az (fz (j b U).2.2 z),Wk b U,az (j b U).2.2⟩) (λ v c s K9 P' D T' a' A6 jM w'=>zM he n ⟨az z,L⟩ T' a' A6 (aa jM dD) w') ?_ Uu st (λ b U=>(j b U).1) S6 ac p λ G s' f v dh gz D Uw kq=>r G s' f v (dh.mono λ b U=>U.elim (λ U=>(j b U).2.1) λ U=>U.elim (Lc kU λ D h=>h) λ U=>U▸Wj) gz Uw kq;rw[zK,ES l];exact ER _ _
def n8:Slot "list_iterator" "__getattribute__" "object.__getattribute__":=kN "object" "__getattribute__"
def zN:typeOf (.builtin "list_iterator.__next__")=pure (.type "wrapper_descriptor"):=Gf
def rt:Slot "wrapper_descriptor" "__get__" "wrapper_descriptor.__get__":=kN "wrapper_descriptor" "__get__"
def Hy:typeLookup (.type "wrapper_descriptor") "__set__"=pure none:=by rw[typeLookup_type,builtinLookup_eq_fast];kernel_rfl
def Hz:typeLookup (.type "wrapper_descriptor") "__delete__"=pure none:=by rw[typeLookup_type,builtinLookup_eq_fast];kernel_rfl
def xQ:entryFor table "wrapper_descriptor.__get__"=some Builtin.«wrapper_descriptor.__get__»:=entryFor_of_tree (by kernel_rfl)
def zO:entryFor table "object.__getattribute__"=some Builtin.«object.__getattribute__»:=entryFor_of_tree (by kernel_rfl)
def Ot:isSubtype (.type "list_iterator") (.type "list_iterator")=pure true:=by rw[sT];kernel_rfl
def xR(d l:Addr)(i:Int)(t:Tok):Meets (Builtin.«wrapper_descriptor.__get__» ⟨[.builtin "list_iterator.__next__",.ref d,.type "list_iterator"],[]⟩) (λ A R s=>s.heap.get? d=some {cls:= .type "list_iterator",data:= .fields #[.ref l,.int i t]}/\R (.ok (.ret (.ref s.heap.objs.size))) {s with heap:=s.heap.push {cls:= .type "method-wrapper",data:= .fields #[.builtin "list_iterator.__next__",.ref d]}}):=lL λ prog w A R s H=>by
  obtain⟨hp,g,j,tk,os⟩:=s;obtain⟨L,H⟩:=H;have G:(⟨hp,g,j,tk,os⟩:Shared).TypeIs (.ref d) "list_iterator":=⟨_,L,rfl⟩;have Q:(".".intercalate ("list_iterator.__next__".cutAt '.').dropLast)="list_iterator":=by decide+kernel
  have M:isSubtype (Value.type "list_iterator") (Value.type (".".intercalate ("list_iterator.__next__".cutAt '.').dropLast))=pure true:=by rw[Q];exact Ot
  unfold Builtin.«wrapper_descriptor.__get__»
  repeat(any_goals (first|assumption|wp_step))
  exact⟨_,rfl,H⟩
def vu(d l:Addr)(i:Int)(t u:Tok):Meets (Builtin.«object.__getattribute__» ⟨[.ref d,.str "__next__" u],[]⟩) (λ A R s=>s.heap.get? d=some {cls:= .type "list_iterator",data:= .fields #[.ref l,.int i t]}/\R (.ok (.ret (.ref s.heap.objs.size))) {s with heap:=s.heap.push {cls:= .type "method-wrapper",data:= .fields #[.builtin "list_iterator.__next__",.ref d]}}):=lL λ prog w A R s H=>by
  obtain⟨hp,g,j,tk,os⟩:=s;obtain⟨L,H⟩:=H;have G:(⟨hp,g,j,tk,os⟩:Shared).TypeIs (.ref d) "list_iterator":=⟨_,L,rfl⟩;have f1:=slot_listiter_next.lookup;have f2:=zN;have y:=rt.lookup;have n:=Hy;have C:=Hz;have o:(["__module__","__name__","__qualname__","__doc__","__annotations__"]:List Str).contains ("__next__":Str)=false:=by decide+kernel
  unfold Builtin.«object.__getattribute__»
  repeat(any_goals (first|assumption|((with_reducible show wpAny _ _ (call (Value.builtin "wrapper_descriptor.__get__") _ _) _ _ _);refine jY rt (T:="wrapper_descriptor") (by assumption) xQ rfl (xR d l i t) ⟨L,?_⟩)|wp_step))
  exact ax ⟨_,rfl,H⟩
def rT{prog:Program}{w:World}{d l:Addr}{i:Int}{t:Tok}{Q:dM}(L:s.heap.get? d=some {cls:= .type "list_iterator",data:= .fields #[.ref l,.int i t]})(h:Q (.ref s.heap.objs.size) {s with heap:=s.heap.push {cls:= .type "method-wrapper",data:= .fields #[.builtin "list_iterator.__next__",.ref d]},toks:=s.toks+1}):wpAny (model prog w) A (getAttr (.ref d) "__next__" true) Q E s:=by
 obtain⟨hp,g,j,tk,os⟩:=s;have G:∀b,(⟨hp,g,j,b,os⟩:Shared).TypeIs (.ref d) "list_iterator":=λ D=>⟨_,L,rfl⟩;have y:=n8.lookup;have n:=n8.bind (.ref d);unfold getAttr getAttrBy
 repeat(any_goals (first|assumption|exact G _|((with_reducible show wpAny _ _ (call (Value.builtin "object.__getattribute__") _ _) _ _ _);refine jY n8 (G _) zO rfl (vu d l i t _) ⟨L,?_⟩)|wp_step))
 refine(?_:wpAny _ _ (handedOut (.ref _)) _ _ _);rw[handedOut_of rfl];exact ax h
def ug:Slot "method" "__call__" "method.__call__":=kN "method" "__call__"
def BQ(a b:Value):argsOk "iter" ⟨[a,b],[]⟩:=by unfold argsOk;kernel_rfl
def BR{prog:Program}{w:World}{q fn self:Addr}{x:Str}{t:Tok}{Q:dM}(o:s.heap.get? q=some (methodObj (.ref fn) (.ref self)))(h:Q (.ref s.heap.objs.size) {s with heap:=s.heap.push {cls:= .type "callable_iterator",data:= .fields #[.ref q,.str x t,.bool false]}}):wpAny (model prog w) A (call (.builtin "iter") [.ref q,.str x t]) Q E s:=by
 apply Calls.call_function_entry (by decide+kernel) (by decide+kernel) kdk_entry_iter (BQ _ _);unfold Builtin.«iter»;refine ag (m:=someArgs "iter" 1 2 _) (fq (a:=[Value.ref q,.str x t]) (by first|rfl|kernel_rfl!) ?_);obtain⟨hp,g,j,tk,os⟩:=s;have G:(⟨hp,g,j,tk,os⟩:Shared).TypeIs (.ref q) "method":=⟨_,o,rfl⟩;have f1:=ug.lookup
 repeat(any_goals (first|assumption|wp_step))
 exact⟨_,rfl,h⟩
def uh{o:aQ}{attr:Str}{p:Pos}{Q:dM}(H:d9 o=true)(h:wpAny J.ay A (eval o env) (λ x f=>wpAny J.ay A (getAttr x attr true) Q E f) E s):wpAny J.ay A (eval (.Attribute o attr p) env) Q E s:=by rw[arm_eval_Attribute,oZ H];refine ag (aW h (λ x f q=> ?_) λ D D z=>z);exact ag (cP (ag (bB (aW q (λ y U T=>ag (wpAny_letTemporaryGo (ax T))) λ D D z=>z))))
def jP{x:Str}{np p:Pos}{as:List aQ}{Q:dM}(h:wpAny J.ay A (eval (.Name x np) env) (λ g y=>wpAny J.ay A (callWith p g [] (backTo p (starEach as env)) (backToKw p (keywordEach [] env))) Q E y) E s):wpAny J.ay A (eval (.Call (.Name x np) as [] p) env) Q E s:=ag h
def xS{s s':Shared}{a:Addr}{fp x:List Addr}{o:O}:aE (c.new a fp x o) h (.ref c.Y.n) (.ref a):=⟨bz _,by refine(?_:_=Value.ref (if c.Y.n=c.Y.n then _ else _));exact(ar rfl).symm▸rfl⟩
def ui(h:Heap)(o z:Obj):((h.push o).push z).objs.size=h.objs.size+2:=by rw[b9,b9]
def uj{P:Addr->Prop}{a b:Addr}(C:P a)(U:P b):∀x∈[a,b],P x:=λ x h=>(aT.mp h).elim (λ e=>e▸C) λ h=>bX.mp h▸U
def xT{P:Addr->Prop}{a:Addr}(C:P a):∀x∈[a],P x:=λ x h=>bX.mp h▸C
def BS(R:Rel J c s){i:Nat}{vs:aw}(hi:i<c.Y.n)(p:(c.Y.f i).eI=some vs)(q:Q (.ref c.Y.n) (c.Y.alloc (.yQ i 0))):wpAny J.ay A (call (.builtin "iter") [.ref (c.ρ i)]) (λ x y=>wpAny J.ay A (getAttr x "__next__" true) (gj J c s Q) E y) E s:=by have t:=R.obj i hi;rw[O.qk p]at t;obtain⟨D,f,U,D⟩:=t;apply Calls.call_function_entry (by decide+kernel) (by decide+kernel) kdk_entry_iter (kdk_args_iter _);unfold Builtin.«iter»;refine ag (m:=someArgs "iter" 1 2 _) (fq (a:=[Value.ref (c.ρ i)]) (by first|rfl|kernel_rfl!) ?_);show wpAny _ _ (pyIter (.ref (c.ρ i))>>=_) _ _ _;refine ag (wpAny_pyIter_list U.isList (ax ⟨_,rfl,rT (bS _ rfl) ?_⟩));have n:(s.heap.push {cls:= .type "list_iterator",data:= .fields #[.ref (c.ρ i),.int 0 0]}).objs.size=s.heap.objs.size+1:=b9 ..;have h:=ui s.heap {cls:= .type "list_iterator",data:= .fields #[.ref (c.ρ i),.int 0 0]} {cls:= .type "method-wrapper",data:= .fields #[.builtin "list_iterator.__next__",.ref s.heap.objs.size]};exact⟨_,_,R.new _ [_,s.heap.objs.size] [] (.yQ i 0) (λ D D e=>bN _ (bN _ e)) (h▸av ..) rfl rfl (uj ⟨n▸bR _,by refine(?_:_<Array.size _);refine h.symm▸n.symm▸?_;exact bz _⟩ ⟨ah _,by refine(?_:_<Array.size _);refine h.symm▸?_;exact qU dD⟩) mN λ N=>⟨s.heap.objs.size,rfl,by refine n.symm▸?_;exact ny _,fF hi,bS _ rfl,_,bN _ (bS _ rfl),rfl,by refine(N.ρ i hi).symm▸?_;rfl⟩,xS (s:=s) (s':=s),q⟩
def HA(u:cB J pg)(j:Nat){o:ME}(C:cW J pg d [o]):aH J pg d (.tv j o):=by
 intro k e Q B Y A E c s env h w T;refine bI (P:=λ e=>bA J A E c s (eval e env) Q) h λ e name M h=> ?_;refine eX (P:=λ e=>bA J A E c s (eval (.Attribute e name M) env) Q) h λ g as ks p h=> ?_;have h:=ao h;refine(lq h.1).symm▸?_;refine bU (P:=λ g=>bA J A E c s (eval (.Attribute (.Call g as [] p) name M) env) Q) h.2 λ x np h=> ?_;refine wy (P:=λ as=>bA J A E c s (eval (.Attribute (.Call (.Name x np) as [] p) name M) env) Q) h λ l h=> ?_;have h:=ao h;have N:=ao h.1;have G:=ao N.1;have no:=mM N.2 h.2;refine(bc G.2).symm▸?_;refine uh rfl (jP (sE u T G.1 λ v y n r=> ?_));rw[Hl n]at r;refine(show y= .builtin "iter" from r).symm▸?_;refine bM (kc.go (ea (ks:=[]) (ns:=[]) (kws:=[]) (P:=λ vs ws Y=>Wc vs λ v=>match v with| .ref i=>opt (Y.f i).eI (λ D=>Q (.ref Y.n) (Y.alloc (.yQ i 0)))|_=>False) C (λ b L=>by cases L;exact nf no.symm) jz (t7 no N.2 h.2 rfl) (Bool.or_true _) rfl rfl rfl (by
   refine(tR no).symm▸?_
   exact w) T) λ a H c₂ vs ws I f m U=>⟨⟨.machine,Looks.now⟩,?_⟩)
 refine m.no.symm▸?_;obtain⟨v,rfl,U⟩:=TS U;obtain⟨x,t,r⟩:=f.one;refine t.symm▸?_;refine rQ (P:=λ v=>aE c₂ H.heap v x->_) U (λ i U r=>dt U λ vs n q=> ?_) r;refine r.2.symm▸?_;exact aW (BS (E:=E) I.rel r.1 n q) (λ x aq h=>aW h (λ D D h=>h.after I) λ D D z=>z) λ D D z=>z
def HB(ok:bp J)(h:cB J pg)(R:Rel J c s){i C fa m:Nat}{as:List (Nat×V)}{b:Bool}{Q:dM}(hi:i<c.Y.n)(e:c.Y.f i= .inst C as)(w:pg.insts.contains C=true)(hm:pg.a9 C m=some fa)(q:Q (.ref s.heap.objs.size) {s with heap:=s.heap.push (methodObj (.ref fa) (.ref (c.ρ i))),toks:=s.toks+1}):wpAny J.ay A (getAttr (.ref (c.ρ i)) (bf m) b) Q E s:=by
 obtain⟨M,N,j,f,U,l,G⟩:=h.a9 C m fa hm w;have ic:=h.inst C w;obtain⟨d,es,ep,D,D,D,r,I⟩:=inst_at R hi e;have fn:es.find? (·.key.isStr (bf m))=none:=by rw[List.find?_eq_none];intro u L;obtain⟨k,t,H,z⟩:=r.keys u L;refine z.symm▸?_;refine(?_:¬(attrName k==bf m)=true);simp[j k H]
 have y:lookIn (bf m) (dictOf es ep)=some none:=by unfold lookIn dictOf;simp[fn,r.noRef]
 exact get_bind (R.K ok) I ic.ga (findObj_fn ic.hd M U l G y) ic.gk (wpAny_call (fn_get (s:={s with toks:=s.toks+1}) (R.K ok) N (handed_on rfl q)))
def EW(R:Rel J c s){i fa:Nat}(hi:i<c.Y.n){tk:Tok}(q:Q (.ref c.Y.n) (c.Y.alloc (.dZ fa (.ref i)))):wpAny J.ay A (call (.builtin "iter") [.ref s.heap.objs.size,.str Str.empty (s.toks+1)]) (gj J c s Q) E {s with heap:=s.heap.push (methodObj (.ref fa) (.ref (c.ρ i))),toks:=tk}:=by have o:(s.heap.push (methodObj (.ref fa) (.ref (c.ρ i)))).get? s.heap.objs.size=some (methodObj (.ref fa) (.ref (c.ρ i))):=bS _ rfl;have n:(s.heap.push (methodObj (.ref fa) (.ref (c.ρ i)))).objs.size=s.heap.objs.size+1:=b9 ..;have U:=ui s.heap (methodObj (.ref fa) (.ref (c.ρ i))) {cls:= .type "callable_iterator",data:= .fields #[.ref s.heap.objs.size,.str Str.empty (s.toks+1),.bool false]};exact BR o ⟨_,_,R.new _ [_] [s.heap.objs.size] (.dZ fa (.ref i)) (λ D D e=>bN _ (bN _ e)) (U▸av ..) rfl rfl (xT ⟨n▸bR _,by refine(?_:_<Array.size _);refine U.symm▸n.symm▸?_;exact bz _⟩) (xT ⟨ah _,λ h=>ny _ (n.symm.trans (bX.mp h).symm),_,bN _ o⟩) λ N=>⟨rfl,s.heap.objs.size,_,bS _ rfl,.head _,.ref (c.ρ i),bN _ o,fF hi,by exact(N.ρ i hi).symm▸rfl⟩,xS (s:=s) (s':=s),q⟩
def Q1{P:Const->Prop}{f:Str->Bool}{c:Const}(h:NY c f=true)(g:∀e,f e=true->P (.str e)):P c:=by induction c with
 |str e=>exact g e h|_=>exact nf h
def HC{e:Str}(h:(e.cps.toList==[])=true):e=Str.empty:=by obtain⟨⟨l⟩⟩:=e;refine(show l=[] from bc h).symm▸?_;rfl
def Ld(ok:bp J)(U:cB J pg)(j:Nat){o:ME}(t:aH J pg d o):aH J pg d (.dZ j o):=by intro k e Q B Y A E c s env h w T;refine eX (P:=λ e=>bA J A E c s (eval e env) Q) h λ g as ks p h=> ?_;have h:=ao h;refine(lq h.1).symm▸?_;refine bU (P:=λ g=>bA J A E c s (eval (.Call g as [] p) env) Q) h.2 λ x np h=> ?_;refine J4 (P:=λ as=>bA J A E c s (eval (.Call (.Name x np) as [] p) env) Q) h λ m H h=> ?_;refine bI (P:=λ m=>bA J A E c s (eval (.Call (.Name x np) [m,H] [] p) env) Q) h λ f name M h=> ?_;refine gu (P:=λ H=>bA J A E c s (eval (.Call (.Name x np) [.Attribute f name M,H] [] p) env) Q) h λ b kd u h=> ?_;refine Q1 (P:=λ b=>bA J A E c s (eval (.Call (.Name x np) [.Attribute f name M,.Constant b kd u] [] p) env) Q) h λ e h=> ?_;have N:=ao h;have n:=ao N.1;have l:=ao n.1;have G:=ao l.1;refine(HC n.2).symm▸(bc l.2).symm▸?_;refine jP (sE U T G.1 λ v y I r=> ?_);rw[Hl I]at r;refine(show y= .builtin "iter" from r).symm▸?_;refine bM (di rfl rfl (wpAny_items_cons (uh G.2 ((t k f _ B Y A E c s env N.2 w T).go λ x L c₁ v S r a=>rQ (P:=λ v=>aE c₁ L.heap v x->_) a (λ i a r=>instP a λ C MG e a=>dt a.2 λ fa hm q=> ?_) r)) rfl));refine r.2.symm▸?_;exact HB ok U S.rel r.1 e a.1 hm (wpAny_items_cons (wpAny_mkText (wpAny_items_nil (ax ⟨⟨.machine,Looks.now⟩,aW (EW (E:=E) S.rel r.1 q) (λ D D h=>h.after S) λ D D z=>z⟩))) rfl)
def HD{vs:aw}:∀{xs:aI},vs.length=xs.length->(∀(j:Nat) v x,vs[j]? =some v->xs[j]? =some x->aE c h v x)->aA c h vs xs:=by induction vs with
 |nil=>intro xs I D;refine(vY.mp I.symm).symm▸?_;trivial|cons v vs z=>intro xs I f;induction xs using lC with
  |nil=>exact Nat.noConfusion I|cons x xs=>exact⟨f 0 v x rfl rfl,z (lI I) λ j=>f (j+1)⟩
def Le(M:cB J pg)(I H:Nat){args:List ME}(C:cW J pg d args)(f:∀a,args=[.star a]->aH J pg d a):aH J pg d (.wt I H args):=by intro k e Q B Y A E c s env h w T;refine eX (P:=λ e=>bA J A E c s (eval e env) Q) h λ g as ks p h=> ?_;have h:=ao h;refine(lq h.1).symm▸?_;refine bU (P:=λ g=>bA J A E c s (eval (.Call g as [] p) env) Q) h.2 λ x np h=> ?_;refine wy (P:=λ as=>bA J A E c s (eval (.Call (.Name x np) as [] p) env) Q) h λ a h=> ?_;have h:=ao h;have h1:=ao h.1;refine eX (P:=λ a=>bA J A E c s (eval (.Call (.Name x np) [a] [] p) env) Q) h.2 λ g as ks p2 h=> ?_;have h:=ao h;refine(lq h.1).symm▸?_;refine bU (P:=λ g=>bA J A E c s (eval (.Call (.Name x np) [.Call g as [] p2] [] p) env) Q) h.2 λ y yp h=> ?_;have N:=ao h;refine ag (sE M T h1.1 λ v z l r=> ?_);rw[xH l]at r;refine(show z= .type "list" from r).symm▸bM (di rfl rfl (wpAny_items_cons ?_));refine xI (P:=λ vs Y=>opt (kQ vs) λ ws=>short ws=true/\Q (.list ws) Y) M C f T N.1 N.2 w λ c₁ aq vs xs S rs aG=>dt aG λ ws hr q=>t6 S.rel hr rs λ x s' L=>wpAny_items_nil (ax ⟨⟨.machine,Looks.now⟩,?_⟩);obtain⟨r,a,b,i,t,u,v,rfl,U,hi,hs,rfl⟩:=L;have SS:=S.trans U;have hl:(fN a b i).length<=100000:=ae q.1;have G:(fN a b i).length=(Builtin.Range.rangeSize a b i).toNat:=(a7 ..).trans eB;refine aO λ E'=>call_list_range (n:=(Builtin.Range.rangeSize a b i).toNat) T.rm.1 hi hs (rangeSize_toNat ..) (aa (G▸hl) dD) λ h' tk acc c' hk hL m hz=> ?_;have aL:Step J c₁ s' c₁ {s' with heap:=h',toks:=tk} cN:=U.rel.other cN (λ b o e D=>hk b o e) (λ D h=>h.elim) hz rfl rfl;refine⟨c₁,.list (fN a b i),SS.trans aL,⟨s'.heap.objs.size,acc.toList,rfl,⟨c',hL⟩,mF U.rel,HD (G.trans m.1.symm) λ j v x l L=> ?_⟩,q.2⟩;obtain⟨tt,rfl⟩:=m.2 j x (by exact Array.getElem?_toList▸L);exact tZ l▸⟨tt,rfl⟩
def Lf(ok:bp J)(i:Nat):aH J pg d (.tA i):=by
 intro k e Q B Y A E c s env h w T;refine rh (P:=λ e=>bA J A E c s (eval e env) Q) h λ vs p h=> ?_;refine XO (P:=λ vs=>bA J A E c s (eval (.JoinedStr vs p) env) Q) h λ a v b h=> ?_;have h:=ao h;have M:=ao h.1;refine MI (P:=λ a=>bA J A E c s (eval (.JoinedStr [a,v,b] p) env) Q) M.1 λ u f g C=> ?_;refine MI (P:=λ b=>bA J A E c s (eval (.JoinedStr [_,v,b] p) env) Q) h.2 λ U m j G=> ?_;refine QD (P:=λ v=>bA J A E c s (eval (.JoinedStr [_,v,_] p) env) Q) M.2 λ x l fp L=> ?_;refine Bu w λ n H w=> ?_;have hd:n.natAbs.log2<64:=by by_cases q:n.natAbs=0;refine q.symm▸?_;decide;exact(Nat.log2_lt q).mpr (ae w.1)
 have I:(Str.ofString (toString n)).length<=65:=by rw[PySem.ofString_length];exact int_text_length_le dD hd
 have fit:∀{k:Nat},k<=2065->k<=sizeLine:=λ h=>aa h (by refine aK.symm▸?_;decide);have z:=T.step (Step.toks T.rl (s.toks+1));refine JoinedStr_many (joinParts_cons (wpAny_Constant_str ⟨fit ?_,joinParts_cons (wpAny_FormattedValue_repr (wpAny_Name (tJ z L H vn λ y r=> ?_) (CC.tI L).2.2.1))⟩));rw[strLen_append];exact aa (mY C 0) dD;obtain⟨t,rfl⟩:=r;have o:(Str.empty++u++Str.ofString (toString n)).length<=1065:=by rw[strLen_append,strLen_append];exact dS (mY C 0) I
 have N:(Str.empty++u++Str.ofString (toString n)++U).length<=2065:=by rw[strLen_append];exact dS o G
 exact wpAny_pyReprObj_gives (typeIs_int _ n t) F.slot_int_repr F.entry_int_repr (F.args_int_repr_1 _) (gives_int_repr n t (fz hd dD)) (formatField_str (λ t' tk=>⟨fit (aa o dD),joinParts_cons (wpAny_Constant_str ⟨fit N,joinParts_nil ⟨c,.str (Str.cps _).toList,Step.toks T.rl _,⟨_,rfl⟩,T.sg▸w.2 _⟩ (fit N)⟩)⟩) (fit (aa I dD))) rfl (fit (aa I dD))
structure All(J:Cx)(pg:Pg)(d:Nat)(m:ME):Prop where
 e:aH J pg d m
 t:eZ J pg d m
 i:jO J pg d m
 st:∀a,m= .star a->aH J pg d a
def lr{ms:List ME}(h:∀m∈ms,All J pg d m):cW J pg d ms:=by induction ms with
 |nil=>exact KR|cons m ms z=>have l:=z λ w h'=>h w (.tail _ h');have hm:=h m (.head _);cases H:m.isStar with
  |false=>exact Oa H hm.e l|true=>exact ME.mJ (P:=λ m=>All J pg d m->cW J pg d (m::ms)) H (λ a hm=>Ha (hm.st a rfl) l) hm
def Q2{ms:List ME}(h:∀m∈ms,All J pg d m):mL J pg d ms:=by induction ms with
 |nil=>exact jz|cons m ms z=>exact He (h m (.head _)).e (z λ w h'=>h w (.tail _ h'))
def MY{ms:List ME}(h:∀m∈ms,All J pg d m):mK J pg d ms:=by induction ms with
 |nil=>exact KV|cons m ms z=>exact Hc (h m (.head _)).t (z λ w h'=>h w (.tail _ h'))
def rz{ms:List ME}(h:∀m∈ms,All J pg d m):∀a,ms=[.star a]->aH J pg d a:=λ a e=>(h (.star a) (e▸.head _)).st a rfl
def all_plain(ok:bp J){m:ME}(he:aH J pg d m)(Q:G2 m=false)(M:∀k e,b4 1 k m e=true->b4 0 k m e=true)(N:∀k e,b4 2 k m e=true->b4 0 k m e=true)(H:∀a,m≠.star a):All J pg d m:=⟨he,Hb he Q M,t5 ok he N,λ a e=>absurd e (H a)⟩
def uk{m:ME}(I:eZ J pg d m)(M:∀k e,b4 0 k m e≠true)(N:∀k e,b4 2 k m e≠true)(H:∀a,m≠.star a):All J pg d m:=⟨λ k e Q B Y A E c s env h w T=>(M k e h).elim,I,λ k e Q B Y A E c s env h w T=>(N k e h).elim,λ a e=>absurd e (H a)⟩
def xU{m:ME}(hi:jO J pg d m)(M:∀k e,b4 0 k m e≠true)(N:∀k e,b4 1 k m e≠true)(H:∀a,m≠.star a):All J pg d m:=⟨λ k e Q B Y A E c s env h w T=>(M k e h).elim,λ k e Q B Y A E c s env h w T=>(N k e (ao h).2).elim,hi,λ a e=>absurd e (H a)⟩
def Ou{P:Comprehension->Prop}{g:Comprehension}(h:decide (g.is_async=0)=true)(f:P ⟨g.target,g.iter,g.ifs,0⟩):P g:=by obtain⟨t,i,fs,a⟩:=g;refine(show a=0 from ae h).symm▸?_;exact f
def Ov(ok:bp J)(mt:Bool){elt:ME}(u:aj){it:ME}{tests:List ME}(he:aH J pg d elt)(hi:jO J pg d it)(I:∀m∈tests,eZ J pg d m):aH J pg d (.comp mt elt u it tests):=by intro k e Q B Y A E c s env h w T;refine tE (P:=λ e=>bA J A E c s (eval e env) Q) h λ e o sc pos h=> ?_;refine wy (P:=λ o=>bA J A E c s (eval (.ListComp e o sc pos) env) Q) h λ g h=> ?_;have U:=ao h;have y:=ao U.1;have j:=ao y.1;have N:=ao j.1;have M:=ao N.1;apply Ou (P:=λ g=>bA J A E c s (eval (.ListComp e [g] sc pos) env) Q) M.1;rw[eval_ListComp];refine n7 ok false T (use:=none) (H:=λ f Y=>short f=true/\wH mt f Q Y) he hi I M.2 N.2 j.2 y.2 U.2 (by induction mt<;>exact w) λ D C f L s' G q=> ?_;obtain⟨m,hm⟩:=G.ns;exact⟨m,hm,λ h' n=>have z:=G.quiet n;Lb T.rl z.1 G.hD G.yD z.2 q.2⟩
def Ow(ok:bp J){elt:ME}(u:aj){it:ME}(he:aH J pg d elt)(hi:jO J pg d it):aH J pg d (.Ey elt u it):=by intro k e Q B Y A E c s env h w T;refine EC (P:=λ e=>bA J A E c s (eval e env) Q) h λ e o sc pos h=> ?_;refine wy (P:=λ o=>bA J A E c s (eval (.SetComp e o sc pos) env) Q) h λ g h=> ?_;have y:=ao h;have v:=ao y.1;have j:=ao y.2;have N:=ao j.1;have M:=ao N.1;apply Ou (P:=λ g=>bA J A E c s (eval (.SetComp e [g] sc pos) env) Q) v.1;rw[arm_eval_SetComp,lq v.2];refine n7 ok true T (tests:=[]) (use:=none) he hi (λ D h=>mn h) M.1 M.2 N.2 rfl j.2 w λ a C f I s' G q=> ?_;obtain⟨m,hm⟩:=G.ns;exact⟨m,hm,λ h' H=>have z:=G.quiet H;have⟨n,r⟩:=Got.zF (C:=a) T.rl z.1 G.hD G.yD z.2;⟨_,_,n,r,q⟩⟩
def Ox{a:ME}(C:aH J pg d a):aH J pg d (.GF a):=by intro k e Q B Y A E c s env h w T;refine rh (P:=λ e=>bA J A E c s (eval e env) Q) h λ vs p h=> ?_;refine wy (P:=λ vs=>bA J A E c s (eval (.JoinedStr vs p) env) Q) h λ v h=> ?_;exact C k v Q B Y A E c s env h w T
def Dm{m:ME}(h:All J pg d m):∀w∈[m],All J pg d w:=λ w e=>bX.mp e▸h
set_option maxHeartbeats 4000000 in
def all(ok:bp J)(M:cB J pg)(G:cR J)(m:ME):All J pg d m:=by induction m using ME.rec (motive_2:=λ ms=>∀m∈ms,All J pg d m) (motive_3:=λ o=>tW J pg d o)with
 |lit v=>exact all_plain ok (QJ v) rfl (λ D D h=>h) (λ D D h=>h) nofun|var i=>exact all_plain ok (QK i) rfl (λ D D h=>h) (λ D D h=>h) nofun
 |bT i=>exact all_plain ok (QL M i) rfl (λ D D h=>h) (λ D D h=>h) nofun|bin N a b C U=>exact all_plain ok (QM N C.e U.e) rfl (λ D D h=>h) (λ D D h=>h) nofun
 |cmp N a b C U=>exact⟨MK ok N C.e U.e,Od ok N C.e U.e,t5 ok (MK ok N C.e U.e) (λ D D h=>h),nofun⟩|qp a x b I e C U he=>exact⟨G6 ok x I C.e U.e he.e,KU ok x I C.e U.e he.e,t5 ok (G6 ok x I C.e U.e he.e) (λ D D h=>h),nofun⟩
 |neg a C=>exact all_plain ok (QN C.e) rfl (λ D D h=>h) (λ D D h=>h) nofun|Qw t a b u C U=>exact all_plain ok (QQ u.t C.e U.e) rfl (λ D D h=>nf h) (λ D D h=>nf h) nofun
 |bor a b C U=>exact all_plain ok (QR C.e U.e) rfl (λ D D h=>nf h) (λ D D h=>nf h) nofun|call f args ns kws hf C H=>exact all_plain ok (s_call G ns hf.e (lr C) (rz C) (Q2 H)) rfl (λ D D h=>h) (λ D D h=>h) nofun
 |star a C=>exact⟨λ k e Q B Y A E c s env h w T=>w.elim,λ k e Q B Y A E c s env h w T=>w.elim,λ k e Q B Y A E c s env h w T=>w.elim,λ b e=>by cases e;exact C.e⟩|a9 o m args n C=>exact all_plain ok (Og ok M G m n.e (lr C) (rz C)) rfl (λ D D h=>h) (λ D D h=>h) nofun
 |nE o m args n C=>exact all_plain ok (KY ok M G m n.e (lr C) (rz C)) rfl (λ D D h=>h) (λ D D h=>h) nofun|attr o j n=>exact all_plain ok (N4 ok M j n.e) rfl (λ D D h=>h) (λ D D h=>h) nofun
 |slot o j n=>exact all_plain ok (N5 ok M j n.e) rfl (λ D D h=>h) (λ D D h=>h) nofun|sub o i n hi=>exact all_plain ok (QO n.e hi.e) rfl (λ D D h=>h) (λ D D h=>h) nofun
 |slice o lo hi n z g=>exact all_plain ok (K1 n.e z g) rfl (λ D D h=>h) (λ D D h=>h) nofun|list mt es he=>exact all_plain ok (Ob mt (lr he)) rfl (λ D D h=>h) (λ D D h=>h) nofun
 |tuple es he=>exact all_plain ok (KS (lr he)) rfl (λ D D h=>h) (λ D D h=>h) nofun|wq=>exact all_plain ok KO rfl (λ D D h=>h) (λ D D h=>h) nofun
 |comp mt elt L it tests he hi u=>exact all_plain ok (Ov ok mt L he.e hi.i (λ m hm=>(u m hm).t)) rfl (λ D D h=>h) (λ D D h=>h) nofun|freeze a C=>exact all_plain ok (G7 C.e) rfl (λ D D h=>nf h) (λ D D h=>nf h) nofun
 |zu a C=>exact uk (Oe C.t) (λ D D h=>nf h) (λ D D h=>nf h) nofun|xr es he=>exact uk (Of (MY he)) (λ D D h=>nf h) (λ D D h=>nf h) nofun
 |Qx es he=>exact uk (QS (MY he)) (λ D D h=>nf h) (λ D D h=>nf h) nofun|zip j a b C U=>exact xU (Om M j (lr λ m hm=>(aT.mp hm).elim (λ e=>e▸C) λ h=>Dm U m h)) (λ D D h=>nf h) (λ D D h=>nf h) nofun
 |range j as C=>exact xU (Hm M j (lr C) (rz C)) (λ D D h=>nf h) (λ D D h=>nf h) nofun|values o n=>exact xU (EO ok n.e) (λ D D h=>nf h) (λ D D h=>nf h) nofun
 |dZ j o n=>exact all_plain ok (Ld ok M j n.e) rfl (λ D D h=>h) (λ D D h=>h) nofun|tv j o n=>exact all_plain ok (HA M j (lr (Dm n))) rfl (λ D D h=>h) (λ D D h=>h) nofun
 |mulM a b C U=>exact all_plain ok (Oc C.e U.e) rfl (λ D D h=>h) (λ D D h=>h) nofun|Ey elt L it he hi=>exact all_plain ok (Ow ok L he.e hi.i) rfl (λ D D h=>h) (λ D D h=>h) nofun
 |wt p y args C=>exact all_plain ok (Le M p y (lr C) (rz C)) rfl (λ D D h=>h) (λ D D h=>h) nofun|tA i=>exact all_plain ok (Lf ok i) rfl (λ D D h=>h) (λ D D h=>h) nofun
 |GF a C=>exact all_plain ok (Ox C.e) rfl (λ D D h=>h) (λ D D h=>h) nofun|nil=>rename _∈_=>h;exact mn h
 |cons m ms r q=>rename _∈_=>h;exact(aT.mp h).elim (λ e=>e▸r) λ h=>q _ h|none=>exact KZ
 |some m l=>exact K0 l.e
noncomputable def EX(s:List (Int×Value))(k:Int)(x:Value):List (Int×Value):=match s with
 |[]=>[(k,x)]|(j,w)::r=>if j=k then(j,x)::r else(j,w)::EX r k x
def BU{k:Int}{x:Value}{s:List (Int×Value)}(T:(s.map (·.1)).Nodup):stored s k x=EX s k x:=by induction s with
 |nil=>rfl|cons p r z=>obtain⟨j,w⟩:=p;rw[fG,gR]at T;unfold stored;refine(?_:_=(if j=k then(j,x)::r else(j,w)::EX r k x));by_cases e:j=k;subst e;rw[ar (by simp),ar rfl,fG,ar rfl,map_store_of_not_mem r j x T.1];rw[au e,<-z T.2];unfold stored;rw[List.any_cons,cJ e,Bool.false_or];split;rw[fG,au e];rfl
def c6.put{k:Int}{v:V}{x:Value}(Q:aE c h v x){bJ:List (Int×V)}{s:List (Int×Value)}(r:c6 c h bJ s):c6 c h (putD bJ k v) (EX s k x):=r.ind (P:=λ bJ s=>c6 c h (putD bJ k v) (EX s k x)) ⟨rfl,Q,trivial⟩ λ j w r y es q b z=>by refine(?_:c6 c h (if j=k then(j,v)::r else(j,w)::putD r k v) (if j=k then(j,x)::es else(j,y)::EX es k x));by_cases e:j=k;rw[ar e,ar e];exact⟨rfl,Q,b⟩;rw[au e,au e];exact⟨rfl,q,z⟩
def c6.del{k:Int}{bJ:List (Int×V)}{s:List (Int×Value)}(r:c6 c h bJ s):c6 c h (bJ.filter λ u=> !decide (u.1=k)) (without s k):=r.ind (P:=λ bJ s=>c6 c h (bJ.filter λ u=> !decide (u.1=k)) (without s k)) trivial λ j w r y es q b z=>by unfold without at z⊢;rw[gS,gS];by_cases e:j=k;rw[au (by rw[af e];exact iJ),au λ h=>(ae (p:=¬_) h) e];exact z;rw[ar (by rw[cJ e];rfl),ar (af (p:=¬_) e)];exact⟨rfl,q,z⟩
def aA.set{v:V}{x:Value}(Q:aE c h v x){vs:aw}{xs:aI}(j:Nat)(r:aA c h vs xs):aA c h (vs.set j v) (xs.set j x):=r.ind (P:=λ vs xs=>∀j:Nat,aA c h (vs.set j v) (xs.set j x)) (λ D=>trivial) (λ D D D D r E z j=>Nat.casesOn j ⟨Q,E⟩ λ j=>⟨r,z j⟩) j
def Rel.Lg(R:Rel J c s){i:Nat}(hi:i<c.Y.n)(hd:c.Y.f i≠.dead)(hf:c.fp i=[c.ρ i])(o:O){h':Heap}(tk:Nat)(H:Heap.SameBut (c.ρ i) s.heap h')(new:Carry c s.heap (c.set i o) h'->dU J (c.set i o) h' (c.ρ i) [c.ρ i] o):Step J c s (c.set i o) {s with heap:=h',toks:=tk} cN:=R.upd (s':={s with heap:=h',toks:=tk}) ⟨hi,hd⟩ o (λ b A t U=>(H.2 b λ q=>U (by rw[hf,q];exact .head _)).trans t) (bO H.1.symm) rfl rfl (by exact hf▸new)
def zP{l:Addr}{f:aI}{k:Int}{t:Tok}{v:Value}{Q:Unit->Shared->Prop}(I:SeqAt s.heap "list" l f)(o:0<=k)(U:k<2^62)(p:k<f.length)(q:∀s',s'={s with heap:=s.heap.update l (Obj.mapSeq (·.setIfInBounds k.toNat v))}->SeqAt s'.heap "list" l (f.set k.toNat v)->Q () s'):wpAny J.ay A (setItem (.ref l) (.int k t) v) Q E s:=by
 obtain⟨n,m⟩:=I;have G:s.TypeIs (.ref l) "list":=⟨_,m,rfl⟩;unfold setItem
 try with_reducible apply bB
 refine ag (wpAny_sequenceKey G dD ?_);refine ag (wpAny_callSpecial?_slot (name:=Str.ofString "__setitem__") G slot_list_setitem (lG slot_list_setitem G entry_list_setitem ?_ (args_list_setitem _ _ _)));show wpAny _ _ (Builtin.List.listSubscript? (.int k t)>>=_) _ _ s;refine ag (wpAny_listSubscript_int (fitsIndex_of o (by omega)) ?_);clear U;obtain⟨j,rfl⟩:=Int.eq_ofNat_of_zero_le o;have d:j<f.toArray.size:=by simp;omega
 show wpAny _ _ ((seqItemAt l j>>=λ r=>pure (r.map (j,·)))>>=_) _ _ s;refine ag (ag (wpAny_seqItemAt m rfl (ax ?_)));rw[qT d];show wpAny _ _ (setSeqItemAt l j v>>=_) _ _ s;refine ag (wpAny_setSeqItemAt m rfl ?_);have fin:Q () {s with heap:=s.heap.update l (Obj.mapSeq (·.setIfInBounds j v))}:=q _ rfl (by
  have N:=IsL.update (n:=n) m (·.setIfInBounds j v)
  have e:f.toArray.setIfInBounds j v=(f.set j v).toArray:=by exact ar ‹_›
  rw[e]at N
  exact⟨_,N⟩)
 first
  |exact ag (ax (ax ⟨.none,rfl,ax fin⟩))
  |exact ax ⟨.none,rfl,ax fin⟩
def set_list(R:Rel J c s){a:Nat}{vs:aw}{k:Int}{t:Tok}{v:V}{z:Value}{Q:Mem->Prop}(hi:a<c.Y.n)(e:c.Y.f a= .list vs)(o:0<=k)(u:k<vs.length)(H:vs.length<=100000)(n:aE c s.heap v z)(q:Q (c.Y.set a (.list (vs.set k.toNat v)))):Ko J A E c s (setItem (.ref (c.ρ a)) (.int k t) z) Q:=by have j:=R.obj a hi;rw[e]at j;obtain⟨h,g,U,f⟩:=j;refine zP U o (by omega) (by exact f.length▸u) λ s' G C=> ?_;subst G;exact⟨_,R.Lg hi (by rw[e];exact od) h (.list (vs.set k.toNat v)) s.toks (.update ..) λ N=>⟨rfl,_,C,(f.carry N).set (n.carry N) _⟩,q⟩
def isInt_self{k:Int}{t:Tok}:(intKind J.prog J.w).is k (.int k t)=true:=f9 k
def set_dict(R:Rel J c s){a:Nat}{bJ:List (Int×V)}{ep:Nat}{k:Int}{t:Tok}{v:V}{z:Value}{Q:Mem->Prop}(hi:a<c.Y.n)(e:c.Y.f a= .dict bJ ep)(M:bJ.length<=100000)(n:aE c s.heap v z)(q:∀ep,Q (c.Y.set a (.dict (putD bJ k v) ep))):Ko J A E c s (setItem (.ref (c.ρ a)) (.int k t) z) Q:=by have j:=R.obj a hi;rw[e]at j;obtain⟨G,I,h,U⟩:=j;refine wpAny_setItem_pairs (knd:=intKind J.prog J.w) (k:=k) isInt_self h.dictOf (λ h' hd H=> ?_) (by rw[<-U.vals.1,aK];exact aa M dD);obtain⟨y,l⟩:=hd.dictAt;rw[BU h.nodup]at l;exact⟨_,R.Lg hi (by rw[e];exact od) G (.dict (putD bJ k v) y) (s.toks+1) H λ N=>⟨rfl,_,l,(U.carry N).put (n.carry N)⟩,q y⟩
def xV(R:Rel J c s){o i v:V}{x y z:Value}{f:Nat->Mem}{Q:Mem->Prop}(b:aE c s.heap o x)(U:aE c s.heap i y)(n:aE c s.heap v z)(h:qq c.Y o i v=some f)(q:∀ep,Q (f ep)):Ko J A E c s (setItem x y z) Q:=by obtain⟨a,rfl,g⟩:=Bs h;obtain⟨k,rfl,g⟩:=iR g;obtain⟨hi,rfl⟩:=b;obtain⟨t,rfl⟩:=U;generalize e:c.Y.f a=o at g;induction o with
 |list vs=>have h:=bb g;have M:=ao h.1;have N:=ao M.1;exact set_list R hi e (ae N.1) (ae N.2) (ae M.2) n (by have q:=q 0;rw[<-h.2]at q;exact q)|dict bJ ep=>have h:=bb g;exact set_dict R hi e (ae h.1) n (by rw[<-h.2]at q;exact q)
 |_=>exact nn g
def Lh(R:Rel J c s){a:Nat}{bJ:List (Int×V)}{ep:Nat}{k:Int}{t:Tok}{v:V}{Q:Unit->Shared->Prop}(hi:a<c.Y.n)(e:c.Y.f a= .dict bJ ep)(U:short bJ=true)(n:bJ.lookup k=some v)(q:∀s' ep,Step J c s (c.set a (.dict (bJ.filter λ u=> !decide (u.1=k)) ep)) s' cN->Q () s'):wpAny J.ay A (delItem (.ref (c.ρ a)) (.int k t)) Q E s:=by have j:=R.obj a hi;rw[e]at j;obtain⟨N,G,M,h⟩:=j;have U:bJ.length<=100000:=ae U;obtain⟨o,es,b,L,D⟩:=id M;refine wpAny_delItem_slot (T:="dict") ⟨_,b,L.1⟩ dD F.slot_dict_delitem (call_meetsIn F.slot_dict_delitem ⟨_,b,L.1⟩ F.entry_dict_delitem (F.args_dict_delitem_2 _ _) (meets_dict_delitem_pairs (intKind J.prog J.w) (c.ρ a) isInt_self) ⟨G,M.dictOf,by rw[<-h.vals.1,aK];exact aa U dD,?_,λ h' hd H=> ?_⟩);obtain⟨x,L,D⟩:=(c6.lookup h).1 v n;rw[L];rfl;obtain⟨y,l⟩:=hd.dictAt;exact q _ y (R.Lg hi (by rw[e];exact od) N (.dict (bJ.filter λ u=> !decide (u.1=k)) y) (s.toks+1) H λ I=>⟨rfl,_,l,(h.carry I).del⟩)
def xW{a b:Addr}{xs ys:aI}{Q:dM}(M:SeqAt s.heap "list" a xs)(N:SeqAt s.heap "list" b ys)(L:xs.length<=100000)(T:ys.length<=100000)(q:∀s',s'={s with heap:=s.heap.update a (Obj.mapSeq λ x=>x++ys.toArray)}->SeqAt s'.heap "list" a (xs++ys)->Q (.ref a) s'):wpAny J.ay A (inplaceOp .Add (.ref a) (.ref b)) Q E s:=by
 obtain⟨n,k⟩:=M;obtain⟨n2,d⟩:=N;have C:s.TypeIs (.ref a) "list":=⟨_,k,rfl⟩;have U:s.TypeIs (.ref b) "list":=⟨_,d,rfl⟩;have f1:fillsInplaceSlot (.type "list") "add" (Operator.Add== .Add)=pure false:=by show(typeLookup (.type "list") (dunderI "add")>>=λ c=>pure (c.isSome&& !isSeqSlot c))=pure false;refine F.slot_list_iadd.lookup.symm▸?_;first|rfl|kernel_rfl
 have f2:fillsNumberSlot (.type "list") "add"=pure false:=by kernel_rfl
 have y:seqSlot? (.type "list") (dunderI "add")=pure (some (.builtin "list.__iadd__")):=by unfold seqSlot?;refine F.slot_list_iadd.lookup.symm▸?_;first|rfl|kernel_rfl
 apply bB;refine ag (wpAny_typeOf C (ag (fq f1 ?_)));refine(au iJ).symm▸?_;refine ag (wpAny_binaryOp1_none (nm:="add") C U f2 ?_);refine ag (fq y ?_);refine ag (wpAny_rule ?_);refine jY F.slot_list_iadd C F.entry_list_iadd (F.args_list_iadd_2 _ _) (AutoSeq1.list___iadd___list_list_0 a xs.toArray n b ys.toArray n2 (by simp[Builtin.List.listTooLong,aK];omega) (by simp[aK];omega) (by simp[aK];omega)) ⟨k,d,?_⟩;apply q _ rfl;have N:=IsL.update (n:=n) k (λ x=>x++ys.toArray);have e:xs.toArray++ys.toArray=(xs++ys).toArray:=by simp
 rw[e]at N;exact⟨_,N⟩
def HE(R:Rel J c s){i:Nat}{b:V}{y:Value}{r:V×Mem}(hi:i<c.Y.n)(o:aE c s.heap b y)(h:NP c.Y i b (c.Y.f i)=some r)(q:Q r.1 r.2):bA J A E c s (inplaceOp .Add (.ref (c.ρ i)) y) Q:=by have t:=R.obj i hi;obtain⟨xs,e,h⟩:=sA h;rw[e]at t;obtain⟨ys,T,h⟩:=q9 h;have h:=bb h;have M:=ao h.1;rw[<-h.2]at q;obtain⟨U,g,G,f⟩:=t;obtain⟨l2,H,rfl,I,L⟩:=cu R o T;refine xW G I (by exact f.length▸ae M.1) (by exact L.length▸ae M.2) λ s' u C=> ?_;subst u;exact⟨_,.ref i,R.Lg hi (by refine e.symm▸?_;exact od) U (.list (xs++ys)) s.toks (.update ..) λ N=>⟨rfl,_,C,(f.carry N).append (L.carry N)⟩,⟨hi,rfl⟩,q⟩
def wJ(R:Rel J c s){e:Operator}{a b:V}{x y:Value}{r:V×Mem}(o:aE c s.heap a x)(v:aE c s.heap b y)(h:vm c.Y e a b=some r)(q:Q r.1 r.2):bA J A E c s (inplaceOp e x y) Q:=by induction e with
 |Add=>induction a using vC with
  |ref i=>exact o.2▸HE R o.1 v h q|int i=>obtain⟨j,rfl,h⟩:=iR h;obtain rfl:=aN h;obtain⟨t,rfl⟩:=o;obtain⟨u,rfl⟩:=v;exact iadd_int ⟨c,.int _,Step.toks R _,⟨_,rfl⟩,q⟩
  |str z=>obtain⟨U,rfl,h⟩:=GH h;have h:=bb h;have M:=ae h.1;rw[<-h.2]at q;obtain⟨t,rfl⟩:=o;obtain⟨u,rfl⟩:=v;exact SBL.iadd (λ f tk D=>⟨c,.str (z++U),Step.toks R _,⟨f,by rw[ik]⟩,q⟩) (by rw[aP,aP,aK];omega)
  |_=>exact nn h
 |Sub=>obtain⟨i,rfl,h⟩:=iR h;obtain⟨j,rfl,h⟩:=iR h;obtain rfl:=aN h;obtain⟨t,rfl⟩:=o;obtain⟨u,rfl⟩:=v;exact isub_int ⟨c,.int _,Step.toks R _,⟨_,rfl⟩,q⟩
 |_=>exact nn h
def Q3(c:Vw)(h:Heap):Fl->Flow->Prop
 | .next,f=>f= .next
 | .brk,f=>f= .brk| .cont,f=>f= .cont
 | .ret v,f=>∃x,f= .ret x/\aE c h v x| .exc _,_=>False
inductive a8(J:Cx)(pg:Pg)(d:Nat)(k:CC)(A:Around)(env:Env)(c:Vw)(s:Shared)(Q:Fl->aw->Mem->Prop)(f:Flow)(s':Shared):Prop
 |mk (c':Vw) (bj:aw) (fl:Fl) (S:Step J c s c' s' (Own env)) (T:At J pg d k bj c'.Y A c' s' env) (r:Q3 c' s'.heap fl f) (q:Q fl bj c'.Y):a8 J pg d k A env c s Q f s'
inductive mj(J:Cx)(pg:Pg)(d:Nat)(k:CC)(A:Around)(env:Env)(c:Vw)(s:Shared)(Q:aw->Mem->Prop)(s':Shared):Prop
 |mk (c':Vw) (bj:aw) (S:Step J c s c' s' (Own env)) (T:At J pg d k bj c'.Y A c' s' env) (q:Q bj c'.Y):mj J pg d k A env c s Q s'
def a8.after{c c₁:Vw}{s y:Shared}{Q:Fl->aw->Mem->Prop}{f:Flow}{s':Shared}(S:Step J c s c₁ y (Own env))(h:a8 J pg d k A env c₁ y Q f s'):a8 J pg d k A env c s Q f s':=by obtain⟨G,v,i,w,T,r,q⟩:=h;exact⟨G,v,i,S.trans w,T,r,q⟩
def a8.mono{Q t:Fl->aw->Mem->Prop}{f:Flow}{s':Shared}(h:a8 J pg d k A env c s Q f s')(o:∀i B Y,Q i B Y->t i B Y):a8 J pg d k A env c s t f s':=by obtain⟨G,v,i,w,T,r,q⟩:=h;exact⟨G,v,i,w,T,r,o _ _ _ q⟩
def Top(A:Around)(env:Env):Prop:=∃l,A.frames=some (env::l)
inductive Dn(c:Vw)(A:Around)(g:Heap)(C:Nat)(e:Addr)(h:Heap):Prop
 |mk (base:Heap) (a0:Value) (en:Env) (outer:List Env) (L:Addr) (hf:A.frames=some (en::outer)) (hL:en.frame=some L) (kb:∀b o,g.get? b=some o->b∉c.z->base.get? b=some o) (up:∀b o,g.get? b=some o->b∈c.z->∃sl,h.get? b=some {o with slots:=sl}) (sz:g.objs.size<=h.objs.size) (hl:Heap.HeldW base (en::outer) e (PW C) a0 L h):Dn c A g C e h
inductive zQ(c:Vw)(A:Around)(g:Heap)(C:Nat)(e:Addr)(h:Heap):Prop
 |made (args:aI) (m:Heap.MadeExcOf g h e (PW C) args) (sz:g.objs.size<=h.objs.size):zQ c A g C e h
 |HF (n:Dn c A g C e h):zQ c A g C e h
 |Ux (f:TV c A g C e h):zQ c A g C e h
inductive gW(J:Cx)(pg:Pg)(d:Nat)(k:CC)(A:Around)(env:Env)(c:Vw)(s:Shared)(X:Nat->aw->Mem->Prop)(e:Value)(s':Shared):Prop
 |mk (x:Addr) (C:Nat) (c':Vw) (bj:aw) (g:Heap) (he:e= .ref x) (S:Step J c s c' {s' with heap:=g} (Own env)) (T:At J pg d k bj c'.Y A c' {s' with heap:=g} env) (f:zQ c' A g C x s'.heap) (q:X C bj c'.Y):gW J pg d k A env c s X e s'
def gW.after{c c₁:Vw}{s y:Shared}{X:Nat->aw->Mem->Prop}{e:Value}{s':Shared}(S:Step J c s c₁ y (Own env))(h:gW J pg d k A env c₁ y X e s'):gW J pg d k A env c s X e s':=by obtain⟨x,C,G,v,g,he,w,T,f,q⟩:=h;exact⟨x,C,G,v,g,he,S.trans w,T,f,q⟩
def gW.none{X:Nat->aw->Mem->Prop}{e:Value}{s':Shared}(h:gW J pg d k A env c s X e s')(hX:∀C B Y,¬X C B Y){P:Prop}:P:=by obtain⟨x,C,G,v,g,he,w,T,f,q⟩:=h;exact absurd q (hX _ _ _)
def cC(J:Cx)(pg:Pg)(d:Nat)(m:MS):Prop:=∀(k:CC)(st:cM)(Q:Fl->aw->Mem->Prop)(B:aw)(Y:Mem)(A:Around)(E:dM)(c:Vw)(s:Shared)(env:Env),KN k m st=true->wS J pg d m Q B Y->At J pg d k B Y A c s env->Top A env->(∀e s',gW J pg d k A env c s (λ C=>Q (.exc C)) e s'->E e s')->wpAny J.ay A (exec st env) (a8 J pg d k A env c s Q) E s
def du(J:Cx)(pg:Pg)(d:Nat)(ms:List MS):Prop:=∀(k:CC)(a:List cM)(Q:Fl->aw->Mem->Prop)(B:aw)(Y:Mem)(A:Around)(E:dM)(c:Vw)(s:Shared)(env:Env),gd k ms a=true->wSs J pg d ms Q B Y->At J pg d k B Y A c s env->Top A env->(∀e s',gW J pg d k A env c s (λ C=>Q (.exc C)) e s'->E e s')->wpAny J.ay A (execs a env) (a8 J pg d k A env c s Q) E s
def At.now(T:At J pg d k B Y A c s env):At J pg d k B c.Y A c s env:=by exact T.sg▸T
def Li:du J pg d []:=by intro k a Q B Y A E c s env h w T H D;induction a using lC with
 |nil=>exact kJ ⟨c,B,.next,.refl T.rl,T.now,rfl,by exact T.sg▸w⟩|cons _ _=>exact nf h
def HG{m:MS}{ms:List MS}(hm:cC J pg d m)(l:du J pg d ms):du J pg d (m::ms):=by intro k a Q B Y A E c s env h w T H M;induction a using lC with
 |nil=>exact nf h|cons st a=>have h:=ao h;refine gT (aW (hm k st _ B Y A E c s env h.1 w T H M) (λ f y L=> ?_) λ D D z=>z);obtain⟨c₁,n,i,S,b,r,q⟩:=L;induction i with
  |next=>exact(show f= .next from r)▸aW (l k a Q n c₁.Y A E c₁ y env h.2 q b H λ e s' t=>M e s' (t.after S)) (λ f U g=>g.after S) λ D D z=>z|brk=>exact(show f= .brk from r)▸⟨c₁,n,.brk,S,b,rfl,q⟩
  |cont=>exact(show f= .cont from r)▸⟨c₁,n,.cont,S,b,rfl,q⟩|ret v=>obtain⟨x,rfl,r⟩:=r;exact⟨c₁,n,.ret v,S,b,⟨x,rfl,r⟩,q⟩
  |exc C=>exact r.elim
def Oy(J:Cx)(pg:Pg)(d:Nat)(t:vk):Prop:=∀(k:CC)(e:aQ)(v:V)(x:Value)(Q:aw->Mem->Prop)(B:aw)(Y:Mem)(A:Around)(E:dM)(c:Vw)(s:Shared)(env:Env),N2 k t e=true->wG J pg d t v Q B Y->aE c s.heap v x->At J pg d k B Y A c s env->wpAny J.ay A (assign e env x) (λ D=>mj J pg d k A env c s Q) E s
def setAt{o:ME}(m:aH J pg d o){z:aQ}{name:Str}{p:Pos}{v:V}{x:Value}{Q:aw->Mem->Prop}{P:fA}(h:b4 0 k o z=true)(w:wE J pg d o P B Y)(r:aE c s.heap v x)(T:At J pg d k B Y A c s env)(f:∀t y c₁ u,Rel J c₁ y->aE c₁ y.heap u t->aE c₁ y.heap v x->P u c₁.Y->Ko J A E c₁ y (setAttr t name x) (Q B)):wpAny J.ay A (assign (.Attribute z name p) env x) (λ D=>mj J pg d k A env c s Q) E s:=by exact ag (bB ((m k z _ B Y A E c s env h w T).go λ t y c₁ u S G i=>ag (cP (ag (bB ((f t y c₁ u S.rel G (r.carry S.carry) i).go λ D U c₂ b q=>wpAny_release ⟨c₂,B,(S.trans b).bC,T.step (S.trans b),q⟩))))))
def sG(ok:bp J)(I:cB J pg)(n:∀m,All J pg d m)(t:vk):Oy J pg d t:=by intro k e v x Q B Y A E c s env h w r T;induction t using vk.casesOn with
 |var i=>refine bU (P:=λ e=>wpAny J.ay A (assign e env x) (λ D=>mj J pg d k A env c s Q) E s) h λ y p h=> ?_;exact jE (dP T h r λ s' S H=>⟨c,B.set i v,S.mono λ b hb=>hb.own,H.now,by exact T.sg▸w⟩)|attr o j=>refine bI (P:=λ e=>wpAny J.ay A (assign e env x) (λ D=>mj J pg d k A env c s Q) E s) h λ N name p h=> ?_;have h:=ao h;have M:=ao h.1;refine(bc M.2).symm▸?_;refine setAt (n o).e h.2 w r T λ l g c₁ u R G r a=>rQ (P:=λ u=>aE c₁ g.heap u l->_) a (λ i a G=>instP a λ C as e a=> ?_) G;exact G.2▸tu R ok G.1 e (I.inst C a.1) (ae M.1) a.2.2.1 r a.2.2.2
 |slot o j=>refine bI (P:=λ e=>wpAny J.ay A (assign e env x) (λ D=>mj J pg d k A env c s Q) E s) h λ N name p h=> ?_;have h:=ao h;have M:=ao h.1;refine(bc M.2).symm▸?_;refine setAt (n o).e h.2 w r T λ l g c₁ u R G r a=>rQ (P:=λ u=>aE c₁ g.heap u l->_) a (λ i a G=>C0 a λ C as e a=> ?_) G;refine G.2.symm▸?_;exact set_node R ok G.1 e (a.1▸I.node) (ae M.1) r (a.1▸a.2.2)|sub o i=>refine fu (P:=λ e=>wpAny J.ay A (assign e env x) (λ D=>mj J pg d k A env c s Q) E s) h λ N i' p h=> ?_;have h:=ao h;have M:=ao h.1;rw[arm_assign_Subscript];exact ag (bB (((n o).e k N _ B Y A E c s env M.2 w T).go λ l g c₁ u S G a=>ag (bB (((n i).e k i' _ B c₁.Y A E c₁ g env h.2 a (T.step S)).go λ iv aS c₂ z U iP bQ=>dt bQ λ f hf q=>ag (cP (ag (bB ((xV (Q:=λ σ'=>Q B σ') U.rel (G.carry U.carry) iP ((r.carry S.carry).carry U.carry) hf q).go λ D bw cj L q=>wpAny_release ⟨cj,B,((S.trans U).trans L).bC,T.step ((S.trans U).trans L),q⟩))))))))
def Lj{I:Addr}{fp wr:List Addr}{n:Nat}{P:Nat->Value->Prop}{St:Nat->Heap->Prop}(W:Walks J.prog J.w A I fp wr n P St)(k i:Nat)(s:Shared)(Q:aI->Shared->Prop)(hle:i+k<=n)(st:St i s.heap)(c:∀xs h' tk,(∀b o,b∉wr->s.heap.get? b=some o->h'.get? b=some o)->xs.length=k->(∀j x,xs[j]? =some x->P (i+j) x)->St (i+k) h'->Q xs {s with heap:=h',toks:=tk}):wpAny J.ay A (draw (.ref I) k) Q E s:=by induction k generalizing i s Q with
 |zero=>exact ax (c [] s.heap s.toks (λ D D D e=>e) rfl (λ j x h=>nn h) st)|succ k z=>refine ag (W.item i s _ E (ai (qU (ji k)) hle) st λ v H N M d y=>ag (bB (z (i+1) _ _ (by rw[Nat.succ_add];exact hle) d λ xs C f g u hp L=>ax (c (v::xs) C f (λ b o U e=>g b o U (y b o U e)) (aF (·+1) u) (λ j x=>Nat.casesOn j (λ h=>aN h▸M) λ j h=>(Nat.succ_add i j).subst (motive:=λ n=>P n x) (hp j x h)) ((Nat.succ_add i k).subst (motive:=λ n=>St n C) L)))))
def zR(m:A.handled=none)(R:Rel J c s){a:Addr}{f:aI}(U:SeqAt s.heap "list" a f){Q:aI->Shared->Prop}(q:∀s',Step J c s c s' cN->Q f s'):wpAny J.ay A (unpackItems (.ref a) f.length none) Q E s:=by
 have W:=Walks.list (prog:=J.prog) (w:=J.w) m s.heap.objs.size a (az U.low) f.toArray;have st:(s.heap.push {cls:= .type "list_iterator",data:= .fields #[.ref a,.int 0 0]}).IsListIter s.heap.objs.size a 0/\(s.heap.push {cls:= .type "list_iterator",data:= .fields #[.ref a,.int 0 0]}).IsList a f.toArray:=
  ⟨⟨_,bS _ rfl,rfl,rfl⟩,U.isList.at λ o e=>bN _ e⟩
 refine ag (jN (.inl rfl) U ?_);refine(au iJ).symm▸?_;refine ag (bB (wpAny_pyIter_list U.isList (ag (bB (aO λ g=>Lj W f.length 0 _ _ (by rw[dy];exact bO cf.symm) st λ xs L G z I hp d M=> ?_)))));have r:xs=f:=List.ext_getElem? λ j=>by cases t:xs[j]?with
  |none=>exact(sX (I▸List.getElem?_eq_none_iff.mp t)).symm|some x=>exact((hY.symm.trans (dy j▸hp j x t))).symm
 subst r;refine(au (iI _)).symm▸?_;refine ag (bB (aO λ g=>W.done _ _ g (by rw[dy]at d;exact cf▸d) λ C y n N=> ?_));rw[au (nofun)];have old:∀b o,s.heap.get? b=some o->b∉[s.heap.objs.size]:=λ b o e h=>az (b6 e) (bX.mp h);exact ax (q _ (R.other cN (s':={s with heap:=C,toks:=y}) (λ b o e D=>n b o (old b o e) (z b o (old b o e) (bN _ e))) (λ D h=>h.elim) (aa (aa (bR _) (bO (b9 ..).symm)) (aa M N)) rfl rfl))
def n9(g:A.handled=none)(R:Rel J c s){T:String}{a:Addr}{f:aI}(G:T="list"\/T="tuple")(e:SeqAt s.heap T a f){Q:aI->Shared->Prop}(q:∀s',Step J c s c s' cN->Q f s'):wpAny J.ay A (unpackItems (.ref a) f.length none) Q E s:=by rcases G with rfl|rfl;exact zR g R e q;exact cf (as:=f)▸uc g R e.fK q
def fc{t:vk}{ts:List vk}{x:aQ}{xs:List aQ}(h:l8 k (t::ts) (x::xs)=true):noStar x=true/\N2 k t x=true/\l8 k ts xs=true:=⟨(ao (ao h).1).1,(ao (ao h).1).2,(ao h).2⟩
def gH{x:aQ}{xs:List aQ}(h:noStar x=true):assignEach (x::xs) env=(false,assign x env)::assignEach xs env:=by induction x using wa<;>first|rfl|exact nf h
def mj.after{c c₁:Vw}{s y s':Shared}{Q:aw->Mem->Prop}(S:Step J c s c₁ y (Own env))(h:mj J pg d k A env c₁ y Q s'):mj J pg d k A env c s Q s':=by obtain⟨G,v,w,T,q⟩:=h;exact⟨G,v,S.trans w,T,q⟩
def EY(ok:bp J)(U:cB J pg)(C:∀m,All J pg d m){v:V}{x:Value}(ts:List vk)(es:List aQ)(Q:aw->Mem->Prop)(B:aw)(Y:Mem)(c:Vw)(s:Shared)(h:l8 k ts es=true)(w:T2 J pg d ts v Q B Y)(r:aE c s.heap v x)(T:At J pg d k B Y A c s env):wpAny J.ay A (assignAll x ((assignEach es env).map (·.2))) (λ D=>mj J pg d k A env c s Q) E s:=by induction ts generalizing es B Y c s with
 |nil=>exact(lq (α:=aQ) (l:=es) (by induction es<;>first|rfl|exact nf h))▸ax ⟨c,B,.refl T.rl,T.now,by refine T.sg.symm▸?_;exact w⟩|cons t ts f=>induction es using lC with
  |nil=>exact nf h|cons e es=>have h:=fc h;refine(gH h.1).symm▸?_;have H:=sG ok U C t k e v x _ B Y A E c s env h.2.1 w r T;induction es using lC with
   |nil=>induction ts using lC with
    |nil=>exact H|cons=>exact nf h.2.2
   |cons M es=>have go:=λ n q c₁ y=>f (M::es) n q c₁ y h.2.2;induction ts using lC with
    |nil=>exact nf h.2.2|cons p ts=>rw[gH (fc h.2.2).1]at go⊢;refine ag (bB (aW H (λ D y L=> ?_) λ D D z=>z));obtain⟨c₁,n,S,b,o⟩:=L;exact aW (go n c₁.Y c₁ y o (r.carry S.carry) b) (λ D N g=>g.after S) λ D D z=>z
def BV{ts:List vk}:∀{es:List aQ},l8 k ts es=true->(assignEach es env).findIdx? (·.1)=none/\(assignEach es env).length=ts.length:=by induction ts with
 |nil=>intro es h;exact(lq (α:=aQ) (l:=es) (by induction es<;>first|rfl|exact nf h))▸⟨rfl,rfl⟩|cons t ts y=>intro es h;induction es using lC with
  |nil=>exact nf h|cons e es=>have h:=fc h;have z:=y h.2.2;refine(gH h.1).symm▸?_;exact⟨(List.findIdx?_cons ..).trans (by refine z.1.symm▸?_;rfl),aF (·+1) z.2⟩
def HL(ok:bp J)(U:cB J pg)(C:∀m,All J pg d m)(ts:List vk)(es:List aQ)(vs:aw)(xs:aI)(Q:aw->Mem->Prop)(B:aw)(Y:Mem)(c:Vw)(s:Shared)(h:l8 k ts es=true)(w:T3 J pg d ts vs Q B Y)(r:aA c s.heap vs xs)(T:At J pg d k B Y A c s env):wpAny J.ay A (assignInOrder ((assignEach es env).map (·.2)) xs) (λ D=>mj J pg d k A env c s Q) E s:=by induction ts generalizing es vs xs B Y c s with
 |nil=>refine(lq (α:=aQ) (l:=es) (by induction es<;>first|rfl|exact nf h)).symm▸?_;exact ax ⟨c,B,.refl T.rl,T.now,by refine T.sg.symm▸?_;exact w⟩|cons t ts y=>induction es using lC with
  |nil=>exact nf h|cons e es=>induction vs using lC with
   |nil=>exact w.elim|cons v vs=>induction xs using lC with
    |nil=>exact r.elim|cons x xs=>have h:=fc h;refine(gH h.1).symm▸?_;refine wpAny_assignInOrder_more (aW (sG ok U C t k e v x _ B Y A E c s env h.2.1 w r.1 T) (λ D f L=> ?_) λ D D z=>z);obtain⟨c₁,n,S,b,q⟩:=L;exact aW (y es vs xs n c₁.Y c₁ f h.2.2 q (r.2.carry S.carry) b) (λ D M g=>g.after S) λ D D z=>z
def HM(J:Cx)(env:Env)(n:Str)(f:Value->Sem Unit):Prop:=∀(A:Around)(E:dM)(x:Value)(Q:Unit->Shared->Prop)(s:Shared),wpAny J.ay A (storeName env n x) Q E s->wpAny J.ay A (f x) Q E s
def Dq(J:Cx)(k:CC)(env:Env):aj->List (Value->Sem Unit)->Prop:=λ is=>match is with
 |[]=>λ fs=>fs=[]|i::is=>λ fs=>match fs with
  |[]=>False|f::fs=>(∃n,k.iV n i=true/\HM J env n f)/\Dq J k env is fs
def Dq.len{is:aj}{fs:List (Value->Sem Unit)}(h:Dq J k env is fs):is.length=fs.length:=by induction is generalizing fs with
 |nil=>refine(show fs=[] from h).symm▸?_;rfl|cons i is z=>induction fs using lC with
  |nil=>exact h.elim|cons f fs=>exact aF (·+1) (z h.2)
def Dq.snoc{is:aj}{fs:List (Value->Sem Unit)}{i:Nat}{f:Value->Sem Unit}(h:Dq J k env is fs)(g:∃n,k.iV n i=true/\HM J env n f):Dq J k env (is++[i]) (fs++[f]):=by induction is generalizing fs with
 |nil=>refine(show fs=[] from h).symm▸?_;exact⟨g,rfl⟩|cons i is z=>induction fs using lC with
  |nil=>exact h.elim|cons f fs=>exact⟨h.1,z h.2⟩
def Dq.rev{is:aj}{fs:List (Value->Sem Unit)}(h:Dq J k env is fs):Dq J k env is.reverse fs.reverse:=by induction is generalizing fs with
 |nil=>refine(show fs=[] from h).symm▸?_;rfl|cons i is z=>induction fs using lC with
  |nil=>exact h.elim|cons f fs=>refine nu.symm▸nu.symm▸?_;exact(z h.2).snoc h.1
def rA(is:aj)(fs:List (Value->Sem Unit))(vs:aw)(xs:aI)(B:aw)(Y:Mem)(c:Vw)(s:Shared)(Q:aw->Mem->Prop)(h:Dq J k env is fs)(I:is.length=vs.length)(r:aA c s.heap vs xs)(T:At J pg d k B Y A c s env)(q:Q (iT is vs B) Y):wpAny J.ay A (assignInOrder fs xs) (λ D=>mj J pg d k A env c s Q) E s:=by induction is generalizing fs vs xs B s with
 |nil=>refine(show fs=[] from h).symm▸?_;exact ax ⟨c,B,.refl T.rl,T.now,by exact T.sg▸q⟩|cons i is y=>induction fs using lC with
  |nil=>exact h.elim|cons f fs=>obtain⟨⟨n,u,g⟩,h⟩:=h;induction vs using lC with
   |nil=>exact Nat.noConfusion I|cons v vs=>induction xs using lC with
    |nil=>exact r.elim|cons x xs=>exact wpAny_assignInOrder_more (g _ _ _ _ _ (dP T u r.1 λ m S e=>aW (y fs vs xs (B.set i v) m h (lI I) (r.2.carry S.carry) e q) (λ D M C=>C.after (S.mono λ b U=>U.own)) λ D D z=>z))
def HN{is:aj}{es:List aQ}(h:oY k is es=true):Dq J k env is ((assignEach es env).map (·.2))/\(assignEach es env).findIdx? (·.1)=none:=by induction is generalizing es with
 |nil=>exact lq h▸⟨rfl,rfl⟩|cons i is y=>induction es using lC with
  |nil=>exact nf h|cons e es=>have h:=ao h;refine bU (P:=λ e=>Dq J k env (i::is) ((assignEach (e::es) env).map (·.2))/\(assignEach (e::es) env).findIdx? (·.1)=none) h.1 λ x p I=> ?_;have z:=y h.2;exact⟨⟨⟨x,I,λ D D D D D h=>jE h⟩,z.1⟩,(List.findIdx?_cons ..).trans (by refine z.2.symm▸?_;rfl)⟩
def EZ{is:aj}{es:List aQ}(h:oY k is es=true):Dq J k env is ((es.flatMap tH).map λ n=>bindName env n):=by induction is generalizing es with
 |nil=>refine(lq h).symm▸?_;rfl|cons i is z=>induction es using lC with
  |nil=>exact nf h|cons e es=>have h:=ao h;exact bU (P:=λ e=>Dq J k env (i::is) (((e::es).flatMap tH).map λ n=>bindName env n)) h.1 λ x p I=>⟨⟨x,I,λ D D D D D h=>wpAny_bindName h⟩,z h.2⟩
def zS{e v:aQ}{l:Nat}(n:qw v=false):swapsWith v (some e) l env=pure false:=by induction v using wa<;>first|rfl|exact nf n.symm
def BW{e v:aQ}{l:Nat}(n:qw v=true)(p:cw e (λ D D=>true)=false):swapsWith v (some e) l env=pure false:=by induction v using wa<;>first|exact nf n|(induction e using wa<;>first|exact nf p.symm|rfl)
def BX{x:Str}{p:Pos}{v:aQ}{l:Nat}(n:qw v=true):∃b,swapsWith v (some (.Name x p)) l env=pure b:=by induction v using wa<;>first|exact nf n|exact⟨_,rfl⟩
def zT{ts:List vk}{es:List aQ}(h:l8 k ts es=true){v:aQ}:swappedStores es v env=pure none:=by induction es using lC with
 |nil=>rfl|cons e r=>induction ts using lC with
  |nil=>exact nf h|cons t ts=>have h:=(fc h).2.1;induction t using vk.casesOn with
   |var i=>exact bU (P:=λ e=>swappedStores (e::r) v env=pure none) h λ D D D=>rfl|sub o i=>exact fu (P:=λ e=>swappedStores (e::r) v env=pure none) h λ D D D D=>rfl
   |_=>exact bI (P:=λ e=>swappedStores (e::r) v env=pure none) h λ D D D D=>rfl
def um(ok:bp J)(h:cB J pg)(C:∀m,All J pg d m){ts:List vk}{e:ME}{es:List aQ}{v:aQ}{p:Pos}{Q:Fl->aw->Mem->Prop}(M:l8 k ts es=true)(N:b4 0 k e v=true)(w:wS J pg d (.assign ts e) Q B Y)(T:At J pg d k B Y A c s env)(H:swapsWithSole es v p.line env=pure false):wpAny J.ay A (exec (.Assign es v p) env) (a8 J pg d k A env c s Q) E s:=wpAny_Assign_stores (((C e).e k v _ B Y A E c s env N w T).go λ x y c₁ u S r o=>aW (EY ok h C (E:=E) ts es _ B c₁.Y c₁ y M o r (T.step S)) (λ D U f=>by
  obtain⟨c₂,t,b,G,q⟩:=f
  exact⟨c₂,t,.next,S.bC.trans b,G,rfl,q⟩) λ D D z=>z) H (zT M)
def BY(T:At J pg d k B Y A c s env):env.locals<s.heap.objs.size/\(∀x a,env.cells.lookup x=some a->a<s.heap.objs.size)/\∀b,Own env b->b<s.heap.objs.size:=by
 have M:env.locals<s.heap.objs.size:=by obtain⟨o,es,ep,e,D⟩:=T.en.H.loc;exact b6 e
 exact⟨M,λ x a h=>(T.en.seen x a h).2.2,λ b U=>U.elim (λ e=>e▸M) λ⟨x,_,I⟩=>(T.en.seen x b I).2.2⟩
def HO(ok:bp J){e:ME}{v:aQ}{use:Value->Sem Unit}{P:fA}{R:Shared->Prop}(T:At J pg d k B Y A c s env)(y:∀m,All J pg d m)(h:b4 0 k e v=true)(hm:KJ e=true)(w:wE J pg d e P B Y)(q:∀mt a C f I s',Got J false c s a C f I s'->wH mt f P I.Y->compPost J.ay A E (some use) (λ D=>R) (.ref a) C (.ok .next) s'):wpAny J.ay A (evalThenUse v env use) (λ D=>R) E s:=QF (P:=λ e=>b4 0 k e v=true->wE J pg d e P B Y->wpAny J.ay A (evalThenUse v env use) (λ D=>R) E s) hm (λ mt elt u it ts h w=>by
  refine tE (P:=λ v=>wpAny J.ay A (evalThenUse v env use) (λ D=>R) E s) h λ e o sc pos h=> ?_
  refine wy (P:=λ o=>wpAny J.ay A (evalThenUse (.ListComp e o sc pos) env use) (λ D=>R) E s) h λ g h=> ?_
  have U:=ao h
  have n:=ao U.1
  have j:=ao n.1
  have N:=ao j.1
  have M:=ao N.1
  apply Ou (P:=λ g=>wpAny J.ay A (evalThenUse (.ListComp e [g] sc pos) env use) (λ D=>R) E s) M.1
  exact ag (aW (n7 ok false T (use:=some use) (H:=λ f Y=>short f=true/\wH mt f P Y) (y elt).e (y it).i (λ m D=>(y m).t) M.2 N.2 j.2 n.2 U.2 (by induction mt<;>exact w) λ a C f I s' G z=>q mt a C f I s' G z.2) (λ D D h=>ax h) λ D D z=>z)) h w
def BZ{Q:Fl->aw->Mem->Prop}{x:Str}{L:Pos}{i:Nat}(T:At J pg d k B Y A c s env)(p:k.iV x i=true){mt:Bool}{f C:Addr}{g:aw}{H:Vw}{s':Shared}(G:Got J false c s f C g H s')(q:wH mt g (λ v Y=>Q .next (B.set i v) Y) H.Y):compPost J.ay A E (some λ v=>assignAll v ((assignEach [.Name x L] env).map (·.2))) (λ D s'=>a8 J pg d k A env c s Q .next s') (.ref f) C (.ok .next) s':=by obtain⟨j,v,S,r,q,t⟩:=Hx T.rl G.S G.hD G.yD G.ac q;have I:C∈j.y:=t C G.yC (Ne.symm G.ne);refine(?_:wpAny _ _ (assign (.Name x L) env (.ref f)) _ _ _);refine jE (dP (T.step S) p r λ z N l=> ?_);have u:=BY T;obtain⟨m,hm⟩:=G.ns;have no:¬Own env C:=λ h=>aD G.hC (u.2.2 C h);refine⟨m,hm.at' λ o e=>N.j6 S.rel I (λ q=>no q.own) e,λ h' w=> ?_⟩;have M:=N.rel;have n:Step J j z j {z with heap:=h'} (·=C):=M.other (·=C) (λ b o e nb=>(w.2 b nb).trans e) (λ b U=>by exact U▸⟨(M.d5 C I).1,(M.d5 C I).2.2.1,(M.d5 C I).2.2.2,I⟩) (bO w.1.symm) rfl rfl;exact⟨j,B.set i v,.next,Step.freshen T.rl (W':=λ b=>Own env b\/b=C) ((S.bC.trans (N.mono λ b U=> .inl U.own)).trans (n.mono λ b U=> .inr U)) λ b U=>U.imp id λ e=>by refine e.symm▸?_;exact G.hC,l.now.wD n (λ e=>aD G.hC (e▸u.1)) (λ y a hl e=>aD G.hC (e▸u.2.1 y a hl)),rfl,q⟩
def HP(ok:bp J)(f:cB J pg)(y:∀m,All J pg d m)(ts:List vk)(e:ME):cC J pg d (.assign ts e):=by intro k st Q B Y A E c s env h w T H g;refine lZ (P:=λ st=>wpAny J.ay A (exec st env) (a8 J pg d k A env c s Q) E s) h λ es v p h=> ?_;have h:=ao h;have N:=ao h.1;have plain:=um (p:=p) ok f y N.1 N.2 w T (E:=E);cases n:qw v with
 |false=>apply plain;induction es using lC with
  |nil=>rfl|cons e es=>induction es using lC with
   |nil=>exact zS n|cons=>rfl
 |true=>have hm:KJ e=true:=(SO h.2).elim (λ h=>nf ((jJ h).symm.trans n)) id;induction es using lC with
  |nil=>exact plain rfl|cons M es=>induction es using lC with
   |cons=>exact plain rfl|nil=>cases j:cw M (λ D D=>true)with
    |false=>exact plain (BW n j)|true=>refine bU (P:=λ M=>l8 k ts [M]=true->(swapsWithSole [M] v p.line env=pure false->wpAny J.ay A (exec (.Assign [M] v p) env) (a8 J pg d k A env c s Q) E s)->wpAny J.ay A (exec (.Assign [M] v p) env) (a8 J pg d k A env c s Q) E s) j (λ x I D U plain=> ?_) N.1 plain;obtain⟨b,u⟩:=BX (x:=x) (p:=I) (l:=p.line) (env:=env) n;induction b with
     |false=>exact plain u|true=>rw[exec_Assign_arm];refine ag (cP ?_);refine(show swapsWithSole [.Name x I] v p.line env=pure true from u).symm▸?_;refine ag (ax ?_);refine(ar rfl).symm▸?_;induction ts using lC with
      |nil=>exact nf U|cons t ts=>induction ts using lC with
       |cons=>exact nf (fc U).2.2|nil=>have L:=(fc U).2.1;induction t using vk.casesOn with
        |var i=>exact ag (aW (HO ok T y N.2 hm (P:=λ v Y=>Q .next (B.set i v) Y) w λ mt a C r o s' G q=>BZ T L G q) (λ D D h=>ax h) λ D D z=>z)|_=>exact nf L
def B0(is:aj)(vs:aw)(B:aw)(i:Nat)(v:V)(h:i∉is):iT is vs (B.set i v)=(iT is vs B).set i v:=by induction is generalizing vs B with
 |nil=>rfl|cons j is z=>induction vs using lC with
  |nil=>rfl|cons w vs=>exact(aF (iT is vs) (List.set_comm _ _ λ e=>h (by exact e▸.head _))).trans (z vs _ λ q=>h (.tail _ q))
def zU(is:aj)(vs:aw)(B:aw)(i:Nat)(v:V)(h:is.length=vs.length):iT (is++[i]) (vs++[v]) B=(iT is vs B).set i v:=by induction is generalizing vs B with
 |nil=>induction vs using lC with
  |nil=>rfl|cons=>exact Nat.noConfusion h
 |cons j is z=>induction vs using lC with
  |nil=>exact Nat.noConfusion h|cons w vs=>exact z vs _ (lI h)
def B1(is:aj)(vs:aw)(B:aw)(p:is.Nodup)(h:is.length=vs.length):iT is.reverse vs.reverse B=iT is vs B:=by induction is generalizing vs B with
 |nil=>induction vs using lC with
  |nil=>rfl|cons=>exact Nat.noConfusion h
 |cons j is z=>induction vs using lC with
  |nil=>exact Nat.noConfusion h|cons w vs=>have p:=gR.mp p;rw[nu,nu,zU _ _ _ _ _ (by refine nK.symm▸nK.symm▸?_;exact lI h),z vs B p.2 (lI h)];exact(B0 is vs B j w p.1).symm
def Sw(ts:List aQ)(t:Sem (Option (List Str))):Prop:=t=pure none\/t=pure (some (ts.flatMap tH))
def Sw.ite{ts:List aQ}{c:Prop}[Decidable c]{t:Sem (Option (List Str))}(h:¬c->Sw ts t):Sw ts (if c then pure none else t):=by by_cases q:c;exact ar q▸.inl rfl;exact au q▸h q
def E0{f:aQ->Option Str}(hf:∀e y,f e=some y->tH e=[y]){l:List aQ}(h:(l.filterMap f).length=l.length):l.filterMap f=l.flatMap tH:=by induction l with
 |nil=>rfl|cons e l z=>cases he:f e with
  |none=>rw[List.filterMap_cons_none he]at h;exact absurd h (az (Nat.lt_succ_of_le (List.length_filterMap_le ..)))|some y=>rw[List.filterMap_cons_some he]at h⊢;refine(z (lI h)).symm▸List.flatMap_cons.symm▸(hf e y he).symm▸?_;rfl
def vw{ts:List aQ}{n:Nat}{p:Pos}{v:aQ}(U:C7 v=true):Sw ts (swappedStores [.Tuple ts n p] v env):=by induction v using wa with
 |Tuple vs m q=>
  have U:=jJ U;refine Sw.ite λ D=>Sw.ite λ D=>Sw.ite λ h=>Sw.ite λ D=> ?_;have U:vs.all (constantsAlone 8)=false:=U;dsimp only;refine(au λ q=>nf (U.symm.trans q)).symm▸?_;have I:_=ts.length:=sY λ q=>h (by refine(bne_iff_ne.mpr q).symm▸?_;rfl);exact .inr (aF (λ l=>pure (some l)) (E0 (λ e y he=>by
   induction e using wa with
   |Name x T=>
    have he:=bb he
    exact aF (λ z=>[z]) he.2
   |_=>exact nn he) I))
 |_=>exact .inl rfl
inductive B3(c:Vw)(h:Heap)(vs:aw):Value->Prop
 |mk (T:String) (a:Addr) (aM:aI) (hT:T="list"\/T="tuple") (sq:SeqAt h T a aM) (rs:aA c h vs aM):B3 c h vs (.ref a)
def Dr(R:Rel J c s){v:V}{x:Value}{vs:aw}(r:aE c s.heap v x)(h:Kw c.Y v=some vs):B3 c s.heap vs x:=by
 have go:∀{u:V},bD c.Y u=some vs->aE c s.heap u x->B3 c s.heap vs x:=λ h r=>by obtain⟨a,f,rfl,e,E⟩:=cu R r h;exact⟨"list",a,f,.inl rfl,e,E⟩
 induction v using vC with
 |tuple ws=>obtain rfl:=aN h;obtain⟨a,f,rfl,e,D,E⟩:=r;exact⟨"tuple",a,f,.inr rfl,e,E⟩
 |ref i=>exact go (u:= .ref i) h r|list ws=>exact go (u:= .list ws) h r
 |_=>exact nn h
def HQ(ok:bp J)(pk:cB J pg)(ha:∀m,All J pg d m)(is:aj)(e:ME):cC J pg d (.unpack is e):=by intro k st Q B Y A E c s env h w T H hE;refine lZ (P:=λ st=>wpAny J.ay A (exec st env) (a8 J pg d k A env c s Q) E s) h λ es v p h=> ?_;refine wy (P:=λ es=>wpAny J.ay A (exec (.Assign es v p) env) (a8 J pg d k A env c s Q) E s) h λ t h=> ?_;refine sD (P:=λ t=>wpAny J.ay A (exec (.Assign [t] v p) env) (a8 J pg d k A env c s Q) E s) h λ ts n i h=> ?_;have h:=ao h;have C:=ao h.1;have N:=ao C.1;rw[exec_Assign_arm];refine ag (cP ?_);refine(show swapsWithSole [.Tuple ts n i] v p.line env=pure false by refine(?_:swapsWith v (some (.Tuple ts n i)) p.line env=_);induction v using wa<;>rfl).symm▸?_;refine ag (ax ?_);rw[au dD];refine ag (((ha e).e k v _ B Y A E c s env N.2 w T).go λ x aq c₁ u S r o=>dt o λ vs F9 o=> ?_);obtain⟨TT,a,f,y,sq,g⟩:=Dr S.rel r F9;have hits:is.length=f.length:=o.1.trans g.length;rcases vw (ts:=ts) (n:=n) (p:=i) (env:=env) h.2 with j|j;refine j.symm▸?_;refine ag (ax ?_);have z:=HN (J:=J) (env:=env) N.1;refine ag (ag (cP ?_));delta unpack;rw[z.2,<-a7 (·.2),<-z.1.len,hits];refine ag (bB (n9 T.rm.1 S.rel y sq λ U b=>aW (rA is _ vs f B c₁.Y c₁ U (λ B Y=>Q .next B Y) z.1 o.1 (g.carry b.carry) ((T.step S).step b) o.2) (λ D bw l=>ax ?_) λ D D z=>z));obtain⟨G,I,M,L,q⟩:=l;exact⟨G,I,.next,(S.bC.trans b.bC).trans M,L,rfl,q⟩;refine j.symm▸?_;refine ag (ax ?_);have z:=EZ (J:=J) (env:=env) N.1;refine ag (wpAny_rule ?_);rw[<-a7 (λ n=>bindName env n),<-z.len,hits,List.map_reverse];refine ag (n9 T.rm.1 S.rel y sq λ U b=>ag (aW (rA is.reverse _ vs.reverse f.reverse B c₁.Y c₁ U (λ B Y=>Q .next B Y) z.rev (by refine nK.symm▸nK.symm▸?_;exact o.1) (g.carry b.carry).reverse ((T.step S).step b) (by exact B1 is vs B (ae C.2) o.1▸o.2)) (λ D bw l=>ax ?_) λ D D z=>z));obtain⟨G,I,M,L,q⟩:=l;exact⟨G,I,.next,(S.bC.trans b.bC).trans M,L,rfl,q⟩
def E1(ok:bp J)(U:cB J pg)(C:∀m,All J pg d m)(i:List vk)(e:ME):cC J pg d (.kO i e):=by intro k st Q B Y A E c s env h w T H hE;refine lZ (P:=λ st=>wpAny J.ay A (exec st env) (a8 J pg d k A env c s Q) E s) h λ es v p h=> ?_;refine wy (P:=λ es=>wpAny J.ay A (exec (.Assign es v p) env) (a8 J pg d k A env c s Q) E s) h λ t h=> ?_;refine sD (P:=λ t=>wpAny J.ay A (exec (.Assign [t] v p) env) (a8 J pg d k A env c s Q) E s) h λ ts n N h=> ?_;have h:=ao h;have M:=ao h.1;have z:=BV (env:=env) M.1;refine bU (P:=λ v=>b4 0 k e v=true->wpAny J.ay A (exec (.Assign [.Tuple ts n N] v p) env) (a8 J pg d k A env c s Q) E s) h.2 (λ y yp D G=> ?_) M.2;rw[exec_Assign_arm];refine ag (cP (ag (m:=swapsWithSole _ _ _ _) (ax ?_)));rw[au dD];refine ag (((C e).e k _ _ B Y A E c s env G w T).go λ x aq c₁ u S r o=>dt o λ vs j o=> ?_);obtain⟨TT,a,g,I,L,f⟩:=Dr S.rel r j;refine ag (m:=swappedStores _ _ _) (ax ?_);refine ag (ag (cP ?_));delta unpack;rw[z.1,z.2,o.1.trans f.length];refine ag (bB (n9 T.rm.1 S.rel I L λ l b=>aW (HL ok U C i ts vs g (λ B Y=>Q .next B Y) B c₁.Y c₁ l M.1 o.2 (f.carry b.carry) ((T.step S).step b)) (λ D bw m8=>ax ?_) λ D D z=>z));obtain⟨cj,zV,a5,f7,q⟩:=m8;exact⟨cj,zV,.next,(S.bC.trans b.bC).trans a5,f7,rfl,q⟩
def At.fn(T:At J pg d k B Y A c s env):interactive env=false:=by delta interactive;refine T.en.kind.symm▸?_;rfl
def Q7(C:∀m,All J pg d m)(e:ME):cC J pg d (.ret e):=by intro k st Q B Y A E c s env h w T H M;refine GV (P:=λ st=>wpAny J.ay A (exec st env) (a8 J pg d k A env c s Q) E s) h λ v p h=> ?_;obtain⟨v,rfl,h⟩:=w5 h;exact wpAny_Return_some (((C e).e k v _ B Y A E c s env h w T).go λ x y c₁ u S r q=>⟨c₁,B,.ret u,S.bC,T.step S,⟨x,rfl,r⟩,q⟩)
def Q8:cC J pg d .brk:=λ k st Q B Y A E c s env h w T H D=>C6 (P:=λ st=>wpAny J.ay A (exec st env) (a8 J pg d k A env c s Q) E s) h λ p D=>wpAny_Break ⟨c,B,.brk,.refl T.rl,T.now,rfl,by exact T.sg▸w⟩
def Oz:cC J pg d .cont:=λ k st Q B Y A E c s env h w T H D=>BC (P:=λ st=>wpAny J.ay A (exec st env) (a8 J pg d k A env c s Q) E s) h λ p D=>wpAny_Continue ⟨c,B,.cont,.refl T.rl,T.now,rfl,by exact T.sg▸w⟩
def OA(C:∀m,All J pg d m)(e:ME):cC J pg d (.expr e):=by intro k st Q B Y A E c s env h w T H M;refine BA (P:=λ st=>wpAny J.ay A (exec st env) (a8 J pg d k A env c s Q) E s) h λ v p h=> ?_;have h:=ao h;refine wpAny_Expr_any (((C e).e k v _ B Y A E c s env h.1 w T).go λ x y c₁ u S r q=>⟨c₁,B,.next,S.bC,T.step S,rfl,q⟩) T.fn ?_;have h:=jJ h.2;induction v using wa<;>first|rfl|exact nf h.symm
def HR(C:∀m,All J pg d m)(t:ME):cC J pg d (.jw t):=λ k st Q B Y A E c s env h w T H D=>GY (P:=λ st=>wpAny J.ay A (exec st env) (a8 J pg d k A env c s Q) E s) h λ y m p h=>wpAny_Assert_holds (((C t).t k y (λ q Y=>q=true/\Q .next B Y) B Y A E c s env h w T).go λ b f c₁ S q=>⟨q.1,c₁,B,.next,S.bC,T.step S,rfl,q.2⟩)
def Uz(g:∀m,All J pg d m)(t:ME){a b:List MS}(n:du J pg d a)(U:du J pg d b):cC J pg d (.dC t a b):=by
 intro k st Q B Y A E c s env h w T H M;refine QE (P:=λ st=>wpAny J.ay A (exec st env) (a8 J pg d k A env c s Q) E s) h λ j o G p h=> ?_;have h:=ao h;have N:=ao h.1;refine wpAny_If (((g t).t k j (λ q Y=>match q with
   |true=>wSs J pg d a Q B Y|false=>wSs J pg d b Q B Y) B Y A E c s env N.1 w T).go λ q y c₁ S r=> ?_)
 induction q with
 |true=>exact aW (n k o Q B c₁.Y A E c₁ y env N.2 r (T.step S) H λ e s' t=>M e s' (t.after S.bC)) (λ f I C=>C.after S.bC) λ D D z=>z|false=>exact aW (U k G Q B c₁.Y A E c₁ y env h.2 r (T.step S) H λ e s' t=>M e s' (t.after S.bC)) (λ f I C=>C.after S.bC) λ D D z=>z
def Q9{P:Const->Prop}{c:Const}(h:QG c=true)(g:P .none):P c:=by induction c with
 |none=>exact g|_=>exact nf h
def Ll(ha:∀m,All J pg d m)(i:Nat)(e:ME){a b:List MS}(hA:du J pg d a)(hB:du J pg d b):cC J pg d (.wu i e a b):=by intro k st Q B Y A E c s env h w T H hE;refine QE (P:=λ st=>wpAny J.ay A (exec st env) (a8 J pg d k A env c s Q) E s) h λ t' o M p h=> ?_;refine qr (P:=λ t'=>wpAny J.ay A (exec (.If t' o M p) env) (a8 J pg d k A env c s Q) E s) h λ l ops n L h=> ?_;refine wy (P:=λ ops=>wpAny J.ay A (exec (.If (.Compare l ops n L) o M p) env) (a8 J pg d k A env c s Q) E s) h λ N h=> ?_;refine wy (P:=λ n=>wpAny J.ay A (exec (.If (.Compare l [N] n L) o M p) env) (a8 J pg d k A env c s Q) E s) h λ G h=> ?_;refine zw (P:=λ l=>wpAny J.ay A (exec (.If (.Compare l [N] [G] L) o M p) env) (a8 J pg d k A env c s Q) E s) h λ iV v np h=> ?_;refine bU (P:=λ iV=>wpAny J.ay A (exec (.If (.Compare (.NamedExpr iV v np) [N] [G] L) o M p) env) (a8 J pg d k A env c s Q) E s) h λ x xp h=> ?_;refine gu (P:=λ G=>wpAny J.ay A (exec (.If (.Compare (.NamedExpr (.Name x xp) v np) [N] [G] L) o M p) env) (a8 J pg d k A env c s Q) E s) h λ cc kd kp h=> ?_;have h4:=ao h;have h3:=ao h4.1;have h2:=ao h3.1;have h1:=ao h2.1;have h0:=ao h1.1;refine(ae h0.1).symm▸?_;apply Q9 (P:=λ cc=>wpAny J.ay A (exec (.If (.Compare (.NamedExpr (.Name x xp) v np) [.Is] [.Constant cc kd kp] L) o M p) env) (a8 J pg d k A env c s Q) E s) h0.2;refine wpAny_If (wpAny_isTrue_Compare1 (wpAny_NamedExpr (((ha e).e k v _ B Y A E c s env h2.2 w T).go λ y aq c₁ u S r I=>dt I λ q hq I=>jE (dP (T.step S) h1.2 r λ U C gV=>ax (a:=Value.none) ?_))) rfl);have z:=oR C.rel (r.carry C.carry) hq;apply wpAny_is_plain z.1;refine z.2.symm▸?_;refine wpAny_truthy_bool ?_;have g:Step J c s c₁ U (Own env):=S.bC.trans (C.mono λ b hb=>hb.own);induction q with
 |true=>exact aW (hA k o Q _ c₁.Y A E c₁ U env h3.2 I gV H λ e s' t=>hE e s' (t.after g)) (λ f U j=>j.after g) λ D D z=>z|false=>exact aW (hB k M Q _ c₁.Y A E c₁ U env h4.2 I gV H λ e s' t=>hE e s' (t.after g)) (λ f U j=>j.after g) λ D D z=>z
def Ra(C:∀m,All J pg d m)(i:Nat)(N:Operator)(e:ME):cC J pg d (.aug i N e):=by intro k st Q B Y A E c s env h w T H j;refine l7 (P:=λ st=>wpAny J.ay A (exec st env) (a8 J pg d k A env c s Q) E s) h λ n g v p h=> ?_;refine bU (P:=λ n=>wpAny J.ay A (exec (.AugAssign n g v p) env) (a8 J pg d k A env c s Q) E s) h λ x xp h=> ?_;have h:=ao h;have M:=ao h.1;refine(ae M.2)▸?_;obtain⟨a,w⟩:=mc (v:=B.getD i .aC) w;exact wpAny_AugAssign_Name (tJ T (CC.Hg M.1).1 rfl a λ y r=>((C e).e k v _ B Y A E c s env h.2 w T).go λ z aq c₁ u S G o=>dt o λ res l q=>(wJ (Q:=λ v Y=>Q .next (B.set i v) Y) S.rel (r.carry S.carry) G l q).go λ z' aS c₂ v' U L q=>dP ((T.step S).step U) M.1 L λ bw f I=>⟨c₂,_,.next,(S.trans U).bC.trans (f.mono λ b t=>t.own),I,rfl,q⟩)
inductive Ds(J:Cx)(pg:Pg)(d:Nat)(A:Around)(E:dM)(name:Str)(op:Operator)(e:ME)(B:aw)(Q:Mem->Prop)(c:Vw)(s:Shared)(u:V)(ov:Value):Prop
 |mk (a:V) (K:V×Mem->Prop) (g:bA J A E c s (getAttr ov name true) (λ v Y=>v=a/\Y=c.Y)) (w:wE J pg d e (λ b Y=>opt (vm Y op a b) K) B c.Y) (f:∀c' s' z x,Rel J c' s'->aE c' s'.heap x.1 z->aE c' s'.heap u ov->c'.Y=x.2->K x->Ko J A E c' s' (setAttr ov name z) Q):Ds J pg d A E name op e B Q c s u ov
def HS{o e:ME}(G:aH J pg d o)(he:aH J pg d e){j v:aQ}{name:Str}{I p:Pos}{U:Operator}{P:fA}{Q:Fl->aw->Mem->Prop}(h1:b4 0 k o j=true)(h2:b4 0 k e v=true)(w:wE J pg d o P B Y)(T:At J pg d k B Y A c s env)(f:∀t m c₁ u,Rel J c₁ m->aE c₁ m.heap u t->P u c₁.Y->Ds J pg d A E name U e B (Q .next B) c₁ m u t):wpAny J.ay A (exec (.AugAssign (.Attribute j name I) U v p) env) (a8 J pg d k A env c s Q) E s:=by refine wpAny_AugAssign_AttributeAny ((G k j _ B Y A E c s env h1 w T).go λ t m c₁ u S r i=> ?_);obtain⟨a,K,g,i,f⟩:=f t m c₁ u S.rel r i;refine g.go λ y aS c₂ a' x L H=> ?_;rw[H.1]at L;rw[<-H.2]at i;refine(he k v _ B c₂.Y A E c₂ aS env h2 i ((T.step S).step x)).go λ z bw cj b n te l=>dt l λ res hr l=>(wJ (Q:=λ v Y=>v=res.1/\Y=res.2) n.rel (L.carry n.carry) te hr ⟨rfl,rfl⟩).go λ z' lD vq v' h M C=> ?_;rw[C.1]at M;exact(f vq lD z' res h.rel M (((r.carry x.carry).carry n.carry).carry h.carry) C.2 l).go λ D mf ka fb q=>have N:=((S.trans x).trans n).trans (h.trans fb);⟨ka,B,.next,N.bC,T.step N,rfl,q⟩
def E2(ok:bp J)(U:cB J pg)(y:∀m,All J pg d m)(o:ME)(j:Nat)(b:Operator)(e:ME):cC J pg d (.ju o j b e):=by intro k st Q B Y A E c s env h w T H hE;refine l7 (P:=λ st=>wpAny J.ay A (exec st env) (a8 J pg d k A env c s Q) E s) h λ n u7 v p h=> ?_;refine bI (P:=λ n=>wpAny J.ay A (exec (.AugAssign n u7 v p) env) (a8 J pg d k A env c s Q) E s) h λ o' name ap h=> ?_;have g:=ao h;have l:=ao g.1;have N:=ao l.1;have M:=ao N.1;refine(ae l.2)▸(bc M.2).symm▸?_;refine HS (y o).e (y e).e N.2 g.2 w T λ t G c₁ u R r q=>rQ (P:=λ u=>aE c₁ G.heap u t->Ds J pg d A E (attrName j) b e B (Q .next B) c₁ G u t) q (λ i q r=>instP q λ C as e1 q=>dt q.2 λ a hl bQ=> ?_) r;refine⟨a,_,by refine r.2.symm▸?_;exact tm R ok r.1 e1 (U.inst C q.1) (ae M.1) hl ⟨rfl,rfl⟩,(mc bQ).2,λ c' s' z x R r' I L f=>instP f λ C' MG e3 f=> ?_⟩;refine I.2.symm▸?_;exact tu R ok I.1 (L▸e3) (U.inst C' f.1) (ae M.1) f.2.2.1 r' (L▸f.2.2.2)
def E3(ok:bp J)(U:cB J pg)(y:∀m,All J pg d m)(o:ME)(j:Nat)(b:Operator)(e:ME):cC J pg d (.jv o j b e):=by intro k st Q B Y A E c s env h w T H hE;refine l7 (P:=λ st=>wpAny J.ay A (exec st env) (a8 J pg d k A env c s Q) E s) h λ n u7 v p h=> ?_;refine bI (P:=λ n=>wpAny J.ay A (exec (.AugAssign n u7 v p) env) (a8 J pg d k A env c s Q) E s) h λ o' name ap h=> ?_;have g:=ao h;have l:=ao g.1;have N:=ao l.1;have M:=ao N.1;refine(ae l.2)▸(bc M.2).symm▸?_;refine HS (y o).e (y e).e N.2 g.2 w T λ t G c₁ u R r q=>rQ (P:=λ u=>aE c₁ G.heap u t->Ds J pg d A E (d7 j) b e B (Q .next B) c₁ G u t) q (λ i q r=>C0 q λ C as e1 q=>dt q.2 λ a hl I=> ?_) r;refine⟨a,_,by refine r.2.symm▸?_;exact get_node R ok r.1 e1 (q.1▸U.node) (ae M.1) hl (mc I).1 ⟨rfl,rfl⟩,(mc I).2,λ c' s' z x R r' L e2 f=>C0 f λ C' MG e3 f=> ?_⟩;refine L.2.symm▸?_;exact set_node R ok L.1 (e2▸e3) (f.1▸U.node) (ae M.1) r' (e2▸f.2.2)
def Rc{a:List MS}(g:du J pg d a):cC J pg d (.Ez a):=by intro k st Q B Y A E c s env h w T H G;refine G0 (P:=λ st=>wpAny J.ay A (exec st env) (a8 J pg d k A env c s Q) E s) h λ b C el U p h=> ?_;have h:=ao h;have M:=ao h.1;have N:=ao M.1;refine(lq M.2).symm▸(lq N.2).symm▸?_;induction C using lC with
 |nil=>exact nf N.1|cons q C=>refine wpAny_Try_except (wpAny_noRaise (aW (g k b (MF Q) B Y A J5 c s env h.2 w T H λ e s' t=>t.none λ D D D h=>h) (λ f y L=> ?_) λ D D z=>z));have L:=L.mono λ D D D=>QC;induction f with
  |next=>exact kJ L|_=>exact L
def Dt(I:Prop)(R:Flow->Prop)(f:Flow):Prop:=match f with
 | .next| .cont=>I| .brk=>R .next
 | .ret v=>R (.ret v)
def uo{a:aw->Mem->Prop}{Q:Fl->aw->Mem->Prop}{f:Flow}{s':Shared}(h:a8 J pg d k A env c s (wx a Q) f s'){I:Prop}{R:Flow->Prop}(N:mj J pg d k A env c s a s'->I)(G:∀f,a8 J pg d k A env c s Q f s'->R f):Dt I R f:=by obtain⟨c₂,T,i,b,M,r,q⟩:=h;induction i with
 |next=>exact(show f= .next from r)▸N ⟨c₂,T,b,M,q⟩|cont=>exact(show f= .cont from r)▸N ⟨c₂,T,b,M,q⟩
 |brk=>exact(show f= .brk from r)▸G _ ⟨c₂,T,.next,b,M,rfl,q⟩|ret v=>obtain⟨x,rfl,r⟩:=r;exact G _ ⟨c₂,T,.ret v,b,M,⟨x,rfl,r⟩,q⟩
 |exc C=>exact r.elim
section
open Sem (wp)
noncomputable abbrev HT(d:Addr):Obj:={cls:= .type "method-wrapper",data:= .fields #[.builtin "list_iterator.__next__",.ref d]}
def B4:isSubtype (.type "list_iterator") (.type "module")=pure false:=by rw[sT];kernel_rfl
section
variable{prog:Program}{w:World}
def xX{d:Addr}{Q:Unit->Shared->Prop}(G:s.TypeIs (.ref d) "list_iterator")(h:Q () s):wpAny (model prog w) A (checkBoundCall "list_iterator.__next__" ⟨[.ref d],[]⟩) Q E s:=by
 have f1:=B4;obtain⟨hp,g,j,tk,os⟩:=s
 repeat(any_goals (first|assumption|wp_step))
def rB{a d:Addr}{R:Result->Shared->Prop}(m:s.heap.get? a=some (HT d))(I:s.TypeIs (.ref d) "list_iterator")(h:wpAny (model prog w) A.in1 (Builtin.«list_iterator.__next__» ⟨[.ref d],[]⟩) (λ fin s'=>match fin with| .done f=>R (.ok f) s'| .again G=>G.quiet=true/\codeAny (model prog w) A G R s') (λ e s'=>R (.error e) s') s):codeAny (model prog w) A (.call (.ref a) ⟨[],[]⟩) R s:=by apply codeAny_of_tree;refine(?_:wpAny _ _ (callAny (.ref a) _) _ _ _);apply nd_load m;show wpAny _ _ (checkBoundCall "list_iterator.__next__" ⟨[.ref d],[]⟩>>=λ D=>again (.builtin "list_iterator.__next__" ⟨[.ref d],[]⟩)) _ _ _;refine ag (xX I (ax ⟨Code.quiet_builtin _ (by decide+kernel),codeAny_builtin entry_listiter_next ?_⟩));exact h
def zW{a it l:Addr}{i:Nat}{items:Array Value}{x:Value}{R:Result->Shared->Prop}(m:s.heap.get? a=some (HT it))(hit:s.heap.IsListIter it l i)(I:s.heap.IsList l items)(L:items[i]? =some x)(z:∀h',h'.IsListIter it l (i+1)->Heap.SameBut it s.heap h'->R (.ok (.ret x)) {s with heap:=h'}):codeAny (model prog w) A (.call (.ref a) ⟨[],[]⟩) R s:=by
 apply rB m hit.typeIs;obtain⟨o,m,n,hd⟩:=id hit;obtain⟨M,g,D,d,t⟩:=I;show wpAny _ _ (field (.ref it) 0>>=_) _ _ s;refine ag (fJ m hd (x:= .ref l) rfl ?_);refine(?_:wpAny _ _ (if(Value.ref l==Value.none)=true then _ else _) _ _ s);refine(au (show¬((Value.ref l==Value.none)=true) from iJ)).symm▸?_;show wpAny _ _ (field (.ref it) 1>>=_) _ _ s;refine ag (fJ m hd (x:= .int i 0) rfl ?_);show wpAny _ _ (seqItems? (.ref l)>>=_) _ _ s;refine ag (wpAny_seqItems g t ?_);simp only[Int.toNat_natCast,L];refine ag (wpAny_setField m hd (by exact ah _) (ax (z _ ?_ (Heap.SameBut.update ..))));exact⟨_,Heap.get?_update_self _ m (Obj.isFreed_of_fields (Obj.data_mapFields hd _)),(Obj.cls_mapFields ..).trans n,by
  rw[Obj.data_mapFields hd];rfl⟩
inductive sF(it:Addr)(s:Shared)(e:Addr)(h':Heap):Prop
 |mk (oe:Obj) (vs:Array Value) (t:Value) (k1:∀b o,b≠it->s.heap.get? b=some o->h'.get? b=some o) (k2:s.heap.objs.size<=h'.objs.size) (k3:s.heap.get? e=none) (k4:h'.get? e=some oe) (k5:oe.cls= .type "StopIteration") (k6:oe.data= .fields vs) (k7:vs[0]? =some t) (k8:vs[1]? =some .none):sF it s e h'
def zX{a it l:Addr}{i:Nat}{items:Array Value}{R:Result->Shared->Prop}(f:A.handled=none)(n:s.heap.get? a=some (HT it))(hit:s.heap.IsListIter it l i)(I:s.heap.IsList l items)(L:items[i]? =none)(z:∀h' e,sF it s e h'->R (.error (.ref e)) {s with heap:=h'}):codeAny (model prog w) A (.call (.ref a) ⟨[],[]⟩) R s:=by apply rB n hit.typeIs;obtain⟨o,n,p,hd⟩:=id hit;obtain⟨M,g,D,d,t⟩:=I;show wpAny _ _ (field (.ref it) 0>>=_) _ _ s;refine ag (fJ n hd (x:= .ref l) rfl ?_);refine(?_:wpAny _ _ (if(Value.ref l==Value.none)=true then _ else _) _ _ s);refine(au (show¬((Value.ref l==Value.none)=true) from iJ)).symm▸?_;show wpAny _ _ (field (.ref it) 1>>=_) _ _ s;refine ag (fJ n hd (x:= .int i 0) rfl ?_);show wpAny _ _ (seqItems? (.ref l)>>=_) _ _ s;refine ag (wpAny_seqItems g t ?_);simp only[Int.toNat_natCast,L];refine ag (wpAny_rule (ag (wpAny_setField n hd (by exact Nat.zero_lt_succ _) ?_)));show wpAny _ _ (newExc (.type "StopIteration") []>>=_) _ _ _;apply ag;simp only[newExc,newTuple];refine ag (j3 ?_ (by size_fits));refine ag (m:=firstArgMember _ _) (fq (a:=Value.none) (by first|rfl|(simp only[firstArgMember];rfl)) ?_);refine j3 ?_ (by size_fits);delta raiseNew;refine ag (wpAny_handled ?_);refine(show A.in1.handled=none from f).symm▸?_;refine ag (ax (wpAny_throw (z _ _ ⟨_,_,_,λ b o U e=>bN _ (bN _ ((jZ _ _ (Ne.symm U)).trans e)),?_,?_,bS _ rfl,rfl,rfl,rfl,rfl⟩)));refine(?_:s.heap.objs.size<=(Array.push (Array.push (Heap.update _ _ _).objs _) _).size);rw[lK,lK,vX];exact av _ 2;exact Heap.get?_none_of_le (by rw[b9,vX];exact bR _)
end
end
def uq(R:Rel J c s){i:Nat}{vs:aw}(hi:i<c.Y.n)(e:c.Y.f i= .list vs):∃g n,s.heap.get? (c.ρ i)=some {cls:= .type "list",dict:= .none,data:= .seq g.toArray n,slots:= #[]}/\aA c s.heap vs g/\∀(f:Array Value->Array Value)(I:aw)(E:aI),f g.toArray=E.toArray->aA c s.heap I E->Step J c s (c.set i (.list I)) {s with heap:=s.heap.update (c.ρ i) (Obj.mapSeq f)} cN:=by
 have A:=R.obj i hi;rw[e]at A;obtain⟨h,g,⟨n,M⟩,m⟩:=A;refine⟨g,n,M,m,λ f I E hf G=> ?_⟩;have a:c.live i:=⟨hi,by rw[e];exact od⟩;refine R.upd a (.list I) (λ b A t U=>by
   rw[h]at U;simp at U;exact(jZ _ _ (Ne.symm U)).trans t) (by refine(?_:_<=(Heap.update _ _ _).objs.size);rw[vX];exact ah _) rfl rfl λ u=>⟨h,E,?_,G.carry u⟩
 have N:=IsL.update (n:=n) M f;rw[hf]at N;exact⟨_,N⟩
def aA.last:∀{vs:aw}{xs:aI}{v:V},aA c h vs xs->vs.getLast?=some v->∃x,xs.getLast?=some x/\aE c h v x/\aA c h vs.dropLast xs.dropLast
 |[],_,_,_,h=>by exact nn h|[v],[x],w,r,h=>by obtain rfl:=aN h;exact⟨x,rfl,r.1,trivial⟩
 |[_],[],_,r,_=>r.elim|[_],_::_::_,_,r,_=>r.2.elim
 |v::o::vs,[],w,r,h=>r.elim|v::o::vs,[_],w,r,h=>r.2.elim
 |v::o::vs,x::z::xs,w,r,h=>by obtain⟨y,M,N,j⟩:=aA.last (vs:=o::vs) (xs:=z::xs) r.2 (by rw[<-h];rfl);exact⟨y,by rw[<-M];rfl,N,r.1,j⟩
def HU(R:Rel J c s){i:Nat}{vs:aw}{v:V}(hi:i<c.Y.n)(e:c.Y.f i= .list vs)(H:short vs=true)(p:vs.getLast?=some v)(q:Q v (c.Y.set i (.list vs.dropLast))):bA J A E c s (call (.builtin "list.pop") [.ref (c.ρ i)]) Q:=by
 obtain⟨f,n,U,g,put⟩:=uq R hi e;have H:vs.length<=100000:=ae H;obtain⟨x,L,C,N⟩:=g.last p;have I:f.length<=100000:=by exact g.length▸H
 have hsz:f.toArray.size<=sizeLine:=by rw[cf,aK];exact aa I dD
 refine jY F.slot_list_pop ⟨_,U,rfl⟩ F.entry_list_pop (F.args_list_pop_1 _) (MeetsSeq.list_pop_last (c.ρ i) f.toArray n x (by
  rw[List.getLast?_eq_getElem?]at L;exact hY.trans L) hsz) ⟨U,?_⟩
 have S:=put (λ xs=>xs.eraseIdxIfInBounds (f.toArray.size-1)) vs.dropLast f.dropLast (by
  have T:f≠[]:=by rintro rfl;exact nn L
  have hp:0<f.length:=List.length_pos_iff.mpr T
  rw[cf]
  simp[Array.eraseIdxIfInBounds]
  intro h;omega) N
 exact⟨_,v,S,C.carry S.carry,q⟩
def B5(R:Rel J c s){i:Nat}{vs:aw}(hi:i<c.Y.n)(e:c.Y.f i= .list vs)(H:short vs=true)(q:Q .none (c.Y.set i (.list []))):bA J A E c s (call (.builtin "list.clear") [.ref (c.ρ i)]) Q:=by
 obtain⟨f,n,h,g,put⟩:=uq R hi e;have H:vs.length<=100000:=ae H;have I:f.length<=100000:=by exact g.length▸H
 have hsz:f.toArray.size<=sizeLine:=by rw[cf,aK];exact aa I dD
 refine jY F.slot_list_clear ⟨_,h,rfl⟩ F.entry_list_clear (F.args_list_clear_1 _) (AutoSeq1.list_clear_list_0 (c.ρ i) f.toArray n hsz) ⟨h,?_⟩;have S:=put (λ D=> #[]) [] [] rfl trivial;exact⟨_,.none,S,rfl,q⟩
def zY(R:Rel J c s){i:Nat}{vs:aw}{v:V}{x:Value}(hi:i<c.Y.n)(e:c.Y.f i= .list vs)(H:short vs=true)(r:aE c s.heap v x)(q:Q .none (c.Y.set i (.list (vs++[v])))):bA J A E c s (call (.builtin "list.append") [.ref (c.ρ i),x]) Q:=by
 obtain⟨f,n,h,g,put⟩:=uq R hi e;have H:vs.length<=100000:=ae H;have I:f.length<=100000:=by exact g.length▸H
 refine lG slot_list_append ⟨_,h,rfl⟩ entry_list_append ?_ (args_list_append _ _);show wpAny _ _ (updateSeq (c.ρ i) (·.push x)>>=λ D=>ret .none) _ _ s;have S:=put (·.push x) (vs++[v]) (f++[x]) (by simp) (g.append ⟨r,trivial⟩);exact ag (wpAny_updateSeq h rfl (ax ⟨.none,rfl,_,.none,S,rfl,q⟩) (by rw[cf,aK];omega) (by rw[lK,cf,aK];omega))
noncomputable def X6:Obj:={cls:= .none,data:= .freed}
noncomputable def iX(h:Heap)(z:List Addr):Heap:=⟨h.objs.mapIdx λ i o=>if z.contains i then X6 else o,h.life⟩
def dz(h:Heap)(z:List Addr)(b:Addr):(iX h z).get? b=if z.contains b then none else h.get? b:=by simp only[iX,Heap.get?,Array.getElem?_mapIdx];cases e:h.objs[b]?with
 |none=>simp|some o=>
  by_cases s:z.contains b=true;simp only[Option.map_some,s,if_true];rfl;have s:b∉z:=by simpa using s
  simp[s]
def oa(R:Rel J c s){h' g:Heap}{dd:Addr}(hd:∀b∈c.z,b≠dd)(k1:∀b o,b≠dd->s.heap.get? b=some o->h'.get? b=some o)(M:∀b∈c.z,g.get? b=none){i:List Env}(h:∀U∈i,U.scope.kind≠.module/\∃L,U.frame=some L/\L∈c.z):h'.FunFrames g i:=by induction i with
 |nil=>trivial|cons U rest z=>obtain⟨a1,L,a2,j⟩:=h U (.head _);obtain⟨o,b1,b2⟩:=(R.d6 L j).2.1;exact⟨a1,⟨L,o,a2,M L j,k1 _ _ (hd _ j) b1,b2⟩,z λ G h'=>h G (.tail _ h')⟩
def rC{g h h':Heap}(R:Rel J c {s with heap:=g})(up:∀b o,g.get? b=some o->b∈c.z->∃L,h.get? b=some {o with slots:=L})(u:h.UpToSlots h'):∀b o,g.get? b=some o->b∈c.z->∃L,h'.get? b=some {o with slots:=L}:=λ b o e U=>by obtain⟨L,a⟩:=up b o e U;obtain⟨z,d,x⟩:=(R.d6 b U).2.1;have d:g.get? b=some z:=d;rw[e]at d;obtain rfl:=aN d;obtain⟨n,N⟩:=u b _ a x;exact⟨n,N⟩
def zZ{C:Nat}{x:Addr}{g:Heap}{Q:Unit->Shared->Prop}(T:At J pg d k B Y A c {s with heap:=g} env)(H:Top A env)(f:zQ c A g C x s.heap)(q:∀h',Dn c A g C x h'->Q () {s with heap:=h'}):wpAny J.ay A (noteFrame (.ref x) env) Q E s:=by obtain⟨outer,v⟩:=H;obtain⟨i,a,M⟩:=T.sk;rw[v]at a;obtain rfl:=aN a;obtain⟨Wq,L,j,S9⟩:=M env (.head _);induction f with
 |Ux f=>obtain⟨base,N,w,up,h,i⟩:=f;exact aO λ p=>wpAny_looks_onW v j (i _ v) λ h' I u z=>q h' ⟨base,N,_,_,L,v,j,w,rC T.rl up u,aa h z,I⟩
 |HF n=>obtain⟨base,N,en,HV,L',hf,MZ,w,up,h,hl⟩:=id n;rw[v]at hf;obtain⟨rfl,rfl⟩:=jF (aN hf);exact wpAny_noteFrame_againW MZ hl.2.2.2 (q s.heap n)
 |made args m h=>
  obtain⟨r,y,t,he,X8,X9⟩:=m;have nx:∀b∈c.z,b≠x:=λ b U q=>by obtain⟨o,e,D⟩:=(T.rl.d6 b U).2.1;rw[q]at e;exact nn (y.symm.trans e)
  have gl:∀b,b∈c.z->(iX g c.z).get? b=none:=λ b U=>by rw[dz,ar (List.contains_iff_mem.mpr U)]
  have st:(iX g c.z).StaysIn s.heap:=λ b o l=>by rw[dz]at l;split at l;exact nn l;exact r b o l
  have w:∀b o,g.get? b=some o->b∉c.z->(iX g c.z).get? b=some o:=λ b o e G=>by rw[dz,au λ q=>G (List.contains_iff_mem.mp q)];exact e
  delta noteFrame;simp only[j];refine ag (fJ he rfl (show _=some Value.none from rfl) ?_);refine(au (show¬(Value.none !=Value.none)=true by decide)).symm▸?_;refine aO λ p=>wpAny_entryW (base:=iX g c.z) v (oa T.rl nx (λ b o D e=>r b o e) gl M) j he st (by rw[dz];split<;>first|rfl|exact y) rfl (by simp) rfl λ h' hN z=>q h' ?_;obtain⟨k1,k2,k3,k4⟩:=hN;have n0:(iX g c.z).get? x=none:=by rw[dz];split<;>first|rfl|exact y
  exact⟨_,_,_,_,L,v,j,w,rC (s:=s) T.rl (λ b o e G=>⟨o.slots,r b o e⟩) k4,aa h z,k1,n0,k2,k3⟩
def E4{base:Heap}{l:List Env}{e L:Addr}{cls c:Value}{Q:Unit->Shared->Prop}(I:Heap.HeldW base l e cls c L s.heap)(q:∀h',Heap.HeldW base l e cls c L h'->s.heap.UpToSlots h'->Q () {s with heap:=h'}):wpAny J.ay A (do
   if(<-field (.ref e) 1)== .none then unsupported "frame.own-activation:exception-without-traceback"
   setFlight (.ref e) (some L)) Q E s:=by
 obtain⟨C,N,hf,i,vs,T,a,ts,he,z,hd,M,g,m,G,v,j⟩:=I;have other:∀b,b≠T->(s.heap.update T (Obj.mapFields (·.setIfInBounds 3 (rawInt L)))).get? b=s.heap.get? b:=λ b U=>jZ _ _ (Ne.symm U);have n:∀b o,s.heap.get? b=some o->(∀vs,o.data≠.fields vs)->b≠T:=λ b o U f q=>by rw[q,G]at U;injection U with U;subst U;exact f ts v
 refine ag (fJ he hd M ?_);refine(au (show¬((Value.ref T==Value.none)=true) by simp)).symm▸?_;refine ag (fJ he hd M ?_);refine(ar (show(Value.ref T !=Value.none)=true by simp)).symm▸?_;refine wpAny_setField G v (yX.mp j).1 (q _ ⟨λ b o w=>(other b λ q=>by rw[q,g]at w;exact nn w).trans (C b o w),N,hf.of_keeps λ b o U f=>⟨o,(other b (n b o U f)).trans U,rfl⟩,i,vs,T,_,_,(other e (Ne.symm m)).trans he,z,hd,M,g,m,Heap.get?_update_self _ G (Obj.isFreed_of_fields (Obj.data_mapFields v _)),Obj.data_mapFields v _,?_⟩ λ b o U f=>⟨o.slots,(other b (n b o U f)).trans U⟩);refine(Array.getElem?_setIfInBounds_self).symm▸(ar (yX.mp j).1).symm▸?_;rfl
def ml{X:Nat->aw->Mem->Prop}{e:Value}{s':Shared}(H:Top A env)(t:gW J pg d k A env c s X e s')(q:∀h',gW J pg d k A env c s X e {s' with heap:=h'}->E e {s' with heap:=h'}):notedBy J.ay A env (cameBackBy J.ay A env E) e s':=by obtain⟨x,C,G,v,g,rfl,S,T,f,p⟩:=t;refine zZ T H f λ h' n=> ?_;obtain⟨base,b,h,outer,L,hf,j,m,up,U,I⟩:=n;obtain⟨y,o⟩:=H;obtain⟨rfl,D⟩:=jF (aN (hf.symm.trans o));delta cameBackBy;rw[j];refine aO λ w=>E4 (s:={s' with heap:=h'}) I λ N l M z=>q N ⟨x,C,G,v,g,rfl,S,T,.HF ⟨base,b,h,outer,L,hf,j,m,rC (s:={s' with heap:=h'}) T.rl up M,aa U z,l⟩,p⟩
def Ln(x:∀m,All J pg d m)(t:ME){a b:List MS}(U:du J pg d a)(N:du J pg d b):cC J pg d (.gq t a b):=by
 intro k st Q B Y A E c s env h w T H I;refine KA (P:=λ st=>wpAny J.ay A (exec st env) (a8 J pg d k A env c s Q) E s) h λ u a' b' p h=> ?_;have h:=ao h;have M:=ao h.1;obtain⟨g,n,L,hJ⟩:=w;rw[<-T.sg]at L;refine wpAny_While (codeAny_whileLoop (λ n=>mj J pg d k A env c s (g n)) (λ n s' hI=> ?_) n ⟨c,B,.refl T.rl,T.now,L⟩);obtain⟨G,v,S,l,j⟩:=hI;refine((x t).t k u (λ q Y=>match q with
  |true=>wSs J pg d a (wx (λ B Y=>∃m,m<n/\g m B Y) Q) v Y|false=>wSs J pg d b (MF Q) v Y) v G.Y A _ G s' env M.1 (hJ n v G.Y j) l).go λ q o c₁ r i=> ?_
 have y:=S.trans r.bC;induction q with
 |true=>exact aW (U k a' _ v c₁.Y A _ c₁ o env M.2 i (l.step r) H λ e s' t=>ml H t λ h' t=>I e _ (t.after y)) (λ f aS C=>uo C (λ⟨c₂,nH,aL,gV,m,hm,q⟩=>⟨m,hm,c₂,nH,y.trans aL,gV,q⟩) λ f h=>h.after y) λ D D z=>z|false=>exact aW (N k b' (MF Q) v c₁.Y A _ c₁ o env h.2 i (l.step r) H λ e s' t=>t.none λ D D D h=>h) (λ f aS C=>(C.mono λ D D D=>QC).after y) λ D D z=>z
def At.low(T:At J pg d k B Y A c s env){b:Addr}(h:b=env.locals\/∃x,env.cells.lookup x=some b):b<s.heap.objs.size:=h.elim (λ e=>e▸(BY T).1) λ⟨x,h⟩=>(BY T).2.1 x b h
inductive M0(J:Cx)(pg:Pg)(d:Nat)(k:CC)(A:Around)(env:Env)(c:Vw)(s:Shared)(W:Addr->Prop)(St:Nat->Vw->Heap->Prop)(len:Nat)(P:Nat->aw->Mem->Prop)(n:Nat)(s':Shared):Prop
 |mk (i:Nat) (c':Vw) (bj:aw) (hn:n=len-i) (hi:i<=len) (S:Step J c s c' s' W) (T:At J pg d k bj c'.Y A c' s' env) (st:St i c' s'.heap) (w:P i bj c'.Y):M0 J pg d k A env c s W St len P n s'
def Rf(ha:∀m,All J pg d m)(tg:aj)(it:ME){a:List MS}(hA:du J pg d a):cC J pg d (.ir tg it a):=by intro k st Q B Y A E c s env h w T H hE;refine MH (P:=λ st=>wpAny J.ay A (exec st env) (a8 J pg d k A env c s Q) E s) h λ t i' a' yS p h=> ?_;have h3:=ao h;have h2:=ao h3.1;have h1:=ao h2.1;refine(lq h1.1).symm▸?_;refine wpAny_For (aW ((ha it).i k i' (λ x Y=>forLoop (λ v K B Y=>opt (lX x.1 tg v B) λ M=>wSs J pg d a K M Y) x.2.2 x.2.1 Q B Y) B Y A E c s env h2.2 w T) (λ x aq eJ=>aW eJ (λ Zl aS cK=> ?_) λ D D z=>z) λ D D z=>z) (qA h2.2);obtain⟨I,ys,St,Md,x,c₂,aS,S,nZ,j,st,bQ⟩:=cK;have hh:=T.rm.1;have j:=j A hh;have fresh:∀b∈ys,∀q:b=env.locals\/∃x,env.cells.lookup x=some b,False:=λ b U q=>aD (nZ b U).2 (T.low q);have fin:∀{G s'},Step J c₂ aS G s' (λ b=>b∈ys\/Own env b)->Step J c s G s' (Own env):=λ l=>Step.freshen T.rl (W':=λ b=>b∈ys\/Own env b) (S.bC.trans l) λ b U=>U.elim (λ U=> .inr (nZ b U).2) .inl;refine codeAny_forLoop_any (M0 J pg d k A env c₂ aS (λ b=>b∈ys\/Own env b) St x.2.1.length λ i B Y=>forLoop (λ v K B Y=>opt (lX x.1 tg v B) λ M=>wSs J pg d a K M Y) x.2.2 (x.2.1.drop i) Q B Y) (λ n s' hI=> ?_) x.2.1.length ⟨0,c₂,B,rfl,cI _,.refl S.rel,T.step S,st,bQ⟩;obtain⟨i,G,M,hn,hi,l,N,MN,r⟩:=hI;have g:∀b∈ys,b∈G.y:=λ b U=>l.y b (nZ b U).1;rcases lF hi with u|rfl;rw[qV u]at r;refine dt r.2 λ fn MU aG=>j.item i G s' _ _ u N.rl g MN r.1 λ y bw o md=>j.go i x.2.1[i] t y G bw _ _ (gN u) (MR h1.2 MU) o.rel g md λ lD dB iv Dk=> ?_;have L:=o.trans dB;refine wF hh (N.wD L (λ q=>fresh _ q (.inl rfl)) (λ x b hl q=>fresh b q (.inr ⟨x,hl⟩))) h1.2 iv MU λ mf C qB=>aW (hA k a' _ fn G.Y A _ G mf env h3.2 aG qB H λ e s' t=>ml H t λ h' t=>hE e _ (t.after (fin (l.trans ((L.mono λ b U=> .inl U).trans (C.mono λ b ⟨x,i,_,hd⟩=> .inr hd.own)))))) (λ f Lo HW=> ?_) λ D D z=>z;have SS:=l.trans ((L.mono λ b U=> .inl U).trans (C.mono λ b ⟨x,i,_,hd⟩=> .inr hd.own));exact uo HW (λ⟨OB,Rg,ur,uu,q⟩=>⟨_,by refine hn.symm▸?_;exact Nat.sub_lt_sub_left u (bz _),i+1,OB,Rg,rfl,u,SS.trans (ur.mono λ b U=> .inr U),uu,j.keep (i+1) G mf OB Lo _ C.rel g (j.keep (i+1) G lD G mf _ L.rel g Dk C λ b U q=>fresh b U q.own) ur λ b U q=>fresh b U (q.imp id λ⟨x,_,h⟩=>⟨x,h⟩),q⟩) λ f h=>h.after (fin SS);rw[List.drop_length]at r;exact j.done G s' _ _ N.rl g MN r.1 λ bw o=>kJ ⟨G,M,.next,fin (l.trans (o.mono λ b U=> .inl U)),N.wD o (λ q=>fresh _ q (.inl rfl)) (λ x b hl q=>fresh b q (.inr ⟨x,hl⟩)),rfl,r.2⟩
section
open Sem (wp)
def fS:Slot "callable_iterator" "__next__" "callable_iterator.__next__":=kN "callable_iterator" "__next__"
def ph:Slot "callable_iterator" "__iter__" "callable_iterator.__iter__":=kN "callable_iterator" "__iter__"
def nI:entryFor table "callable_iterator.__next__"=some Builtin.«callable_iterator.__next__»:=entryFor_of_tree (by kernel_rfl)
def vy:entryFor table "callable_iterator.__iter__"=some Builtin.«dict_keyiterator.__iter__»:=entryFor_alias (id':="dict_keyiterator.__iter__") (by kernel_rfl) (by first|rfl|decide+kernel|(unfold String.splitOn;simp+decide [String.splitOnAux])) (by decide+kernel) (by kernel_rfl)
section
variable{prog:Program}{w:World}
def z7{a:Addr}{o:Obj}{Q:dM}(C:s.heap.get? a=some o)(n:o.cls= .type "callable_iterator")(h:Q (.ref a) s):wpAny (model prog w) A (pyIter (.ref a)) Q E s:=by have G:s.TypeIs (.ref a) "callable_iterator":=⟨o,C,n⟩;refine wpAny_pyIter_slot G ph (lG ph G vy ?_ rfl);refine(?_:wpAny _ _ (ret (.ref a)) _ _ s);exact ax ⟨_,rfl,"callable_iterator",_,G,fS.lookup,h⟩
def z8{α:Type}{A':Around}{Q:Option Value->Shared->Prop}(f:A'.handled=none)(h:∀h',(∀b o,s.heap.get? b=some o->h'.get? b=some o)->s.heap.objs.size<=h'.objs.size->Q none {s with heap:=h'}){P:α->Shared->Prop}:wpAny (model prog w) A' (Builtin.SmallTypes.stopIteration:Sem α) P (λ e s'=>wpAny (model prog w) A (do if<-isInstance e (.type "StopIteration")then pure none else throw e:Sem (Option Value)) Q E s') s:=by
 apply ag;simp only[newExc,newTuple];refine ag (j3 ?_ (by size_fits));refine ag (m:=firstArgMember _ _) (fq (a:=Value.none) (by first|rfl|(simp only[firstArgMember];rfl)) ?_);refine j3 ?_ (by size_fits);delta raiseNew;refine ag (wpAny_handled ?_);refine f.symm▸?_;refine ag (ax (wpAny_throw ?_));refine ag (wpAny_isInstance (T:="StopIteration") (b:=true) ⟨_,bS _ rfl,rfl⟩ isSubtype_stop ?_);exact ax (h _ (λ b o e=>bN _ (bN _ e)) (by
  refine(?_:s.heap.objs.size<=(Array.push (Array.push s.heap.objs _) _).size)
  rw[lK,lK];omega))
def xY{a:Addr}{Q:Option Value->Shared->Prop}(f:A.handled=none)(C:s.heap.get? a=some {cls:= .type "callable_iterator",data:= .fields #[.none,.none,.bool true]})(h:∀h',(∀b o,s.heap.get? b=some o->h'.get? b=some o)->s.heap.objs.size<=h'.objs.size->Q none {s with heap:=h'}):wpAny (model prog w) A (pyNext (.ref a)) Q E s:=by have G:s.TypeIs (.ref a) "callable_iterator":=⟨_,C,rfl⟩;refine ag (wpAny_attempt (wpAny_callSpecial?_slot (name:=Str.ofString "__next__") G fS (lG fS G nI ?_ rfl)));show wpAny _ _ (field (.ref a) 2>>=_) _ _ s;refine ag (fJ C rfl (x:= .bool true) rfl ?_);refine(?_:wpAny _ _ (if(Value.bool true==Value.bool true)=true then _ else _) _ _ s);rw[ar (by rfl)];refine ag (wpAny_rule ?_);exact ag (z8 (α:=PUnit) (A':=A.in1) f h)
def rD{A':Around}{q fn:Addr}{self:Value}{of:Obj}{x:FuncData}{Q:Bool->Shared->Prop}(o:s.heap.get? q=some (methodObj (.ref fn) self))(hf:s.heap.get? fn=some of)(hd:of.data= .func x)(h:Q true s):wpAny (model prog w) A' (borrowsExactly (.ref q)) Q E s:=by refine ag (wpAny_load o ?_);show wpAny _ _ (load fn>>=_) _ _ _;refine ag (wpAny_load hf ?_);exact hd▸ax h
def og{M:Model}{f:Value}{pos:aI}{Q:dM}(w:codeAny M A (.call f ⟨pos,[]⟩) (λ r s'=>match r with| .ok (.ret v)=>Q v s'| .ok _=>False| .error e=>E e s') s):wpAny M A (callBorrowed f pos) Q E s:=λ a p b=>by
 obtain⟨r,s',l,q⟩:=w _ p rfl (b.enter (.call f ⟨pos,[]⟩) none p (by intro x;exact nn x));refine⟨r,s',l,?_⟩
 match r,q with
 | .ok (.ret v),q=>exact q| .error e,q=>exact q
 | .ok .next,q=>exact q.elim| .ok .brk,q=>exact q.elim
 | .ok .cont,q=>exact q.elim
inductive HX(a:Addr)(Q:Option Value->Shared->Prop)(aq:Shared):Result->Prop
 |mk (q':Addr) (t':Tok) (UD:Addr) (Dv:Value) (UE:Obj) (Wt:FuncData) (x:Str) (tx:Tok) (MP:aq.heap.get? a=some {cls:= .type "callable_iterator",data:= .fields #[.ref q',.str Str.empty t',.bool false]}) (Wu:aq.heap.get? q'=some (methodObj (.ref UD) Dv)) (P0:aq.heap.get? UD=some UE) (yR:UE.data= .func Wt) (h1:x≠Str.empty->Q (some (.str x tx)) aq) (h2:x=Str.empty->∀h',(∀b o,b≠a->aq.heap.get? b=some o->h'.get? b=some o)->h'.get? a=some {cls:= .type "callable_iterator",data:= .fields #[.none,.none,.bool true]}->aq.heap.objs.size<=h'.objs.size->Q none {aq with heap:=h'}):HX a Q aq (.ok (.ret (.str x tx)))
def z9{a q fn:Addr}{t:Tok}{self:Value}{of:Obj}{c:FuncData}{Q:Option Value->Shared->Prop}(f:A.handled=none)(C:s.heap.get? a=some {cls:= .type "callable_iterator",data:= .fields #[.ref q,.str Str.empty t,.bool false]})(v:s.heap.get? q=some (methodObj (.ref fn) self))(hf:s.heap.get? fn=some of)(hd:of.data= .func c)(i:codeAny (model prog w) A.in1 (.call (.ref q) ⟨[],[]⟩) (λ r y=>HX a Q y r) s):wpAny (model prog w) A (pyNext (.ref a)) Q E s:=by
 have G:s.TypeIs (.ref a) "callable_iterator":=⟨_,C,rfl⟩;refine ag (wpAny_attempt (wpAny_callSpecial?_slot (name:=Str.ofString "__next__") G fS (lG fS G nI ?_ rfl)));show wpAny _ _ (field (.ref a) 2>>=_) _ _ s;refine ag (fJ C rfl (x:= .bool false) rfl ?_);refine(?_:wpAny _ _ (if(Value.bool false==Value.bool true)=true then _ else _) _ _ s);rw[au (by trivial)];refine ag (fJ C rfl (x:= .ref q) rfl ?_);refine ag (wpAny_attempt ?_);refine ag (rD v hf hd ?_);refine(ar rfl).symm▸?_;refine og (codeAny_mono i λ r y k=> ?_);obtain⟨h,g,UD,Dv,UE,Wt,x,tx,l,M,N,I,u,h2⟩:=k;dsimp only;refine ag (fJ l rfl (x:= .bool false) rfl ?_);refine(?_:wpAny _ _ (if(Value.bool false==Value.bool true)=true then _ else _) _ _ _);rw[au (by trivial)];refine ag (fJ l rfl (x:= .str Str.empty g) rfl ?_);refine ag (bB (wpAny_eqBool_str ?_));by_cases L:Str.empty=x;refine(af L).symm▸?_;simp only[Bool.not_true,Bool.false_eq_true,if_false];refine ag (wpAny_rule ?_);apply ag;refine ag (m:=field _ _) (fJ l rfl (x:= .ref h) rfl ?_);apply ag (m:=slotLetsGo _ _ _);refine ag (rD M N I ?_);refine(ar rfl).symm▸?_;apply ax;refine ag (m:=setField _ _ _) (wpAny_setField_rec l (by refine(?_:0<3);decide) λ H N9 k₁=> ?_);refine ag (m:=setField _ _ _) (wpAny_setField_rec N9 (by refine(?_:1<3);decide) λ z qj k₂=> ?_);refine wpAny_setField_rec qj (by refine(?_:2<3);decide) λ n UG p=> ?_;refine z8 (α:=_) (A':=A.in1) f λ T j d=> ?_;have d:n.objs.size<=T.objs.size:=d;exact h2 L.symm T (λ b o U e=>j _ _ (((p.2 _ U).trans ((k₂.2 _ U).trans (k₁.2 _ U))).trans e)) (j _ _ UG) (by
  have a1:H.objs.size=y.heap.objs.size:=k₁.1
  have a2:z.objs.size=H.objs.size:=k₂.1
  have a3:n.objs.size=z.objs.size:=p.1
  omega)
 refine(cJ L).symm▸?_;simp only[Bool.not_false,if_true];exact ax ⟨_,rfl,ax (u λ e=>L e.symm)⟩
end
end
def Aa{l:aj}:strOf l=Str.empty↔l=[]:=by constructor;intro h;have h:l.toArray= #[]:=aF Str.cps h;simpa using h;rintro rfl;rfl
def Rk{K:Frag}{f:Addr}(h:fnIn K f=true):∃o x,K.lookup f=some o/\o.data= .func x:=by delta fnIn at h;generalize K.lookup f=r at h⊢;induction r with
 |none=>exact nf h|some o=>obtain⟨a,b,d,L⟩:=o;induction d<;>first|exact nf h|exact⟨_,_,rfl,rfl⟩
def B6{f:Nat}{args:aw}{ns:List Str}{kws:aw}(h:fM J (d-1) (.glob f) args ns kws Q Y)(r:jK d A):jK (d-1) A.in1:=by induction d using nC with
 |zero=>exact h.elim|succ d=>exact r.in1
def E6(ok:bp J)(pk:cB J pg){i j:Nat}{a:List MS}(hA:du J pg d a){x:Str}{xp:Pos}{a':List cM}(h1:k.iV x i=true)(h3:gd k a a'=true)(H:Top A env){c G:Vw}{s s':Shared}{N:aw}{m:aw->Mem->Prop}{Q:Fl->aw->Mem->Prop}{I:Shared->Prop}{R:Flow->Shared->Prop}(S:Step J c s G s' (Own env))(T:At J pg d k N G.Y A G s' env){fa:Nat}{self:V}(o:j<G.Y.n)(e:G.Y.f j= .dZ fa self){C:Nat}(hC:pg.insts.contains C=true)(hm:pg.a9 C 15=some fa)(w:fM J (d-1) (.glob fa) [self] [] [] (λ v Y=>Y.f j= .dZ fa self/\match v with
   | .str l=>match l with
    |[]=>Q .next N (Y.set j .rN)
    |b::l=>wSs J pg d a (wx m Q) (N.set i (.str (b::l))) Y
   |_=>False) G.Y)(g1:∀s',mj J pg d k A env c s m s'->I s')(g2:∀f s',a8 J pg d k A env c s Q f s'->R f s')(g3:∀e s',gW J pg d k A env c s (λ C=>Q (.exc C)) e s'->E e s'):
  wpAny J.ay A (pyNext (.ref (G.ρ j))) (λ r aq=>match r with
   |none=>wpAny J.ay A (execs [] env) R E aq|some v=>wpAny J.ay A (letOwnedTupleGo (.Name x xp) (.ref (G.ρ j)) v) (λ D Rl=>
     wpAny J.ay A (assign (.Name x xp) env v) (λ D aS=>wpAny J.ay A (execs a' env) (λ f u=>Dt (I u) (R · u) f) E aS) E Rl) E aq) E s':=by
 have L:=T.rl.obj j o;rw[e]at L;obtain⟨D,q,t,e1,D,Dv,e3,r3⟩:=L;obtain⟨of,fd,ek,ed⟩:=Rk (pk.a9 C 15 fa hm hC).2.2.2.1;refine z9 T.rm.1 e1 e3 (T.rl.K ok fa of ek) ed (method_call e3 (codeAny_mono (tV w A.in1 G s' (.ref fa) [Dv] [] (B6 w T.rm) T.sk rfl T.rl rfl ⟨r3,trivial⟩ trivial).2 λ r aS hr=> ?_));obtain⟨y,c₂,v,hy,U,rv,g,p⟩:=hr;refine hy.symm▸?_;have M1:=U.rel.obj j (ai o U.carry.n);rw[g]at M1;obtain⟨gh,UH,Nx,e4,D,Lp,e5,r5⟩:=M1;have Wv:c₂.ρ j=G.ρ j:=U.carry.ρ j o;induction v using vC with
 |str l=>
  obtain⟨ty,rfl⟩:=rv;refine Wv▸?_;refine⟨UH,Nx,fa,Lp,of,fd,strOf l,ty,e4,e5,U.rel.K ok fa of ek,ed,λ jL=> ?_,λ he h' k1 k2 k3=> ?_⟩;induction l using lC with
  |nil=>exact absurd rfl jL|cons a0 l0=>refine ax (jE (dP (T.step U) h1 (v:= .str (a0::l0)) ⟨ty,rfl⟩ λ u n f7=>aW (hA k a' _ _ c₂.Y A E c₂ u env h3 p f7 H λ e s' t=>g3 e s' (t.after ((S.trans U.bC).trans (n.mono λ b M=>M.own)))) (λ f lD m9=> ?_) λ D D z=>z));have SS:=(S.trans U.bC).trans (n.mono λ b M=>M.own);exact uo (m9.after SS) (g1 lD) λ f h=>g2 f lD h
  rw[Aa.mp he]at p;have n:=U.rel.upd (s':={aS with heap:=h'}) ⟨ai o U.carry.n,by refine g.symm▸?_;exact od⟩ .rN (λ b L eb M=>k1 b L (λ q=>M (by refine gh.symm▸q.symm▸?_;exact .head _)) eb) k3 rfl rfl λ ky=>⟨gh,k2⟩;exact kJ (g2 _ _ ⟨_,N,.next,(S.trans U.bC).trans n.bC,(T.step U).step n,rfl,p⟩)
 |_=>exact p.elim
def Lq(ok:bp J)(pk:cB J pg)(ha:∀m,All J pg d m)(i:Nat)(it:ME){a:List MS}(hA:du J pg d a):cC J pg d (.oW i it a):=by
 intro k st Q B Y A E c s env h w T H hE;refine MH (P:=λ st=>wpAny J.ay A (exec st env) (a8 J pg d k A env c s Q) E s) h λ t i' a' yS p h=> ?_;have h3:=ao h;refine(lq h3.1).symm▸?_;refine bU (P:=λ t=>wpAny J.ay A (exec (.For t i' a' [] p) env) (a8 J pg d k A env c s Q) E s) h3.2 λ x xp h=> ?_;have h2:=ao h;have I:=ao h2.1;refine wpAny_For (((ha it).e k i' _ B Y A E c s env I.2 w T).go λ xv y c₁ u S r L=>rQ (P:=λ u=>aE c₁ y.heap u xv->_) L (λ j L r=> ?_) r) (qA I.2);refine r.2.symm▸?_;obtain⟨g,n,j0,hJ⟩:=L;have start:∃o,y.heap.get? (c₁.ρ j)=some o/\o.cls= .type "callable_iterator":=by have U:=hJ n B c₁.Y j0;have l:=S.rel.obj j r.1;generalize c₁.Y.f j=o at l U;induction o with
  |rN=>exact⟨_,l.2,rfl⟩|dZ fa self=>obtain⟨D,q,t,z,D⟩:=l;exact⟨_,z,rfl⟩
  |_=>exact U.elim
 obtain⟨o,z,e2⟩:=start;refine z7 z e2 (codeAny_forLoop_any (λ n=>mj J pg d k A env c₁ y (g n)) (λ n s' hI=> ?_) n ⟨c₁,B,.refl S.rel,T.step S,j0⟩);obtain⟨G,bj,v,M,j'⟩:=hI;refine(v.carry.ρ j r.1)▸?_;have U:=hJ n bj G.Y j';have Ww:=ai r.1 v.carry.n;have l:=M.rl.obj j Ww;generalize e:G.Y.f j=o at l U;induction o with
 |rN=>refine xY T.rm.1 l.2 λ h' k1 k2=>kJ ?_;have N:Step J G s' G {s' with heap:=h'} cN:=M.rl.other cN (λ b o e D=>k1 b o e) (λ D h=>h.elim) k2 rfl rfl;exact⟨G,bj,.next,(S.bC.trans v).trans N.bC,M.step N,rfl,U⟩|dZ fa self=>obtain⟨⟨C,hC,hm⟩,U⟩:=U;exact E6 ok pk hA I.1 h2.2 H v M Ww e hC hm U (λ s' h=>let⟨c₂,nH,N,gV,m,hm,q⟩:=h;⟨m,hm,c₂,nH,N,gV,q⟩) (λ f s' h=>h.after S.bC) λ e s' t=>ml H t λ h' t=>hE e _ (t.after S.bC)
 |_=>exact U.elim
noncomputable def vz(h g:Heap)(z:List Addr):Heap:=⟨h.objs.mapIdx λ i o=>if z.contains i then(g.objs[i]?).getD o else o,h.life⟩
def Dw{h g:Heap}{z:List Addr}{b:Addr}{o:Obj}(U:b∈z)(e:g.get? b=some o)(H:g.objs.size<=h.objs.size):(vz h g z).get? b=some o:=by
 have I:b<h.objs.size:=ai (b6 e) H;have s:z.contains b=true:=by simpa using U
 obtain⟨a,d⟩:=Heap.get?_some_iff.mp e;refine Heap.get?_some_iff.mpr ⟨?_,d⟩;refine(?_:(h.objs.mapIdx _)[b]? =some o);refine(Array.getElem?_mapIdx).symm▸(qT I).symm▸?_;simp only[Option.map_some,s,if_true,a,Option.getD_some]
def Ab{h g:Heap}{z:List Addr}{b:Addr}(U:b∉z):(vz h g z).get? b=h.get? b:=by
 have s:z.contains b=false:=by simpa using U
 simp only[vz,Heap.get?,Array.getElem?_mapIdx];cases e:h.objs[b]?with
 |none=>rfl|some o=>simp[U]
def wK{h g:Heap}{z:List Addr}:(vz h g z).objs.size=h.objs.size:=by simp[vz]
def Rel.E7(R:Rel J c s){i:Nat}(hi:c.live i){h':Heap}(u:∀b o,s.heap.get? b=some o->b∉c.fp i->b∉c.z->h'.get? b=some o)(M:∀b o,s.heap.get? b=some o->b∈c.z->∃L,h'.get? b=some {o with slots:=L})(H:s.heap.objs.size<=h'.objs.size):Step J c s (c.set i .dead) {s with heap:=h'} cN:=by
 have x:Step J c s (c.set i .dead) {s with heap:=vz h' s.heap c.z} cN:=R.upd hi .dead (λ b o e k=>by
  by_cases U:b∈c.z
  ·exact Dw U e H
  ·exact(Ab U).trans (u b o e k U)) (by refine(?_:_<=(vz _ _ _).objs.size);refine wK.symm▸?_;exact H) rfl rfl λ D=>trivial
 have C:Step J (c.set i .dead) {s with heap:=vz h' s.heap c.z} (c.set i .dead) {s with heap:=h'} cN:=x.rel.slots (λ b o e k=>by
  have k:b∉c.z:=k
  exact(Ab (h:=h') (g:=s.heap) k)▸e) (λ b o e U=>by
  have U:b∈c.z:=U
  obtain⟨A,t,D⟩:=(R.d6 b U).2.1
  have:=Dw (h:=h') U t H
  have e:(vz h' s.heap c.z).get? b=some o:=e
  rw[this]at e
  obtain rfl:=aN e
  exact M b _ t U) (by refine(?_:(vz _ _ _).objs.size<=_);refine wK.symm▸?_;exact ah _) rfl rfl
 exact x.trans C
def HY{x:Str}{i:Nat}{v:V}{A A':Around}{p:Pos}{Q:dM}(T:At J pg d k B Y A c s env)(h:k.var x i=true)(n:B.getD i .aC=v)(a:v≠.aC)(q:∀y,aE c s.heap v y->Q y s):wpAny J.ay A' (eval (.Name x p) env) Q E s:=by
 obtain⟨M,N,j,C⟩:=CC.tI h;have hi:B[i]? =some v:=by rw[jX]at n;cases e:B[i]?with
  |none=>rw[e]at n;exact absurd n.symm a|some w=>rw[e]at n;exact aF some n
 refine wpAny_Name ?_ j;rcases T.fv x i v N (T.kd.v x M) hi with z|⟨u,V,r⟩;exact absurd z a;exact lU T.en.kind V C (q u r)
def M3(G:cB J pg){x:Str}{np:Pos}{i:Nat}{p:V->Bool}{A A':Around}{Q:dM}(T:At J pg d k B Y A c s env)(h:k.is x i p=true)(q:∀v y,p v=true->aE c s.heap v y->Q y s):wpAny J.ay A' (eval (.Name x np) env) Q E s:=by have h:=ao h;have M:=ao h.1;have o:=ao M.1;rw[T.gg]at o M;obtain⟨g,U,I⟩:=w5 M.2;refine wpAny_Name ?_ (jJ h.2);have N:=o.2;rw[U]at N;exact loadName_read T.en.kind (T.kd.g x (bc o.1))▸G.glob i x g.2 (by exact U.symm▸(show g.1=x from bc N)▸rfl) c s T.rl A' E Q (λ y r=>q g.2 y I r) env T.en.glob T.en.Ny
def Ac(ok:bp J)(M:cB J pg){i:Nat}{A A':Around}{l:aQ}{Q:dM}(T:At J pg d k B Y A c s env)(h:KL k i l=true){a:Nat}{vs:aw}{v:V}(N:B.getD i .aC= .ref a)(e:c.Y.f a= .list vs)(H:short vs=true)(I:vs.getLast?=some v)(q:∀x G s',Step J c s G s' cN->G.Y=c.Y.set a (.list vs.dropLast)->aE G s'.heap v x->Q x s'):wpAny J.ay A' (eval l env) Q E s:=by
 refine eX (P:=λ l=>wpAny J.ay A' (eval l env) Q E s) h λ f as ks L h=> ?_;have h:=ao h;refine(lq (ao h.1).1).symm▸(lq (ao h.1).2).symm▸?_;refine bI (P:=λ f=>wpAny J.ay A' (eval (.Call f [] [] L) env) Q E s) h.2 λ o n C h=> ?_;have h:=ao h;refine(bc (ao h.1).1).symm▸?_;refine bU (P:=λ o=>wpAny J.ay A' (eval (.Call (.Attribute o (bf 1) C) [] [] L) env) Q E s) h.2 λ y p t=> ?_;rw[mO rfl];refine ag (HY T t N (by exact vn) λ m r=>ag (cP ?_));have hf:kP pg c.Y (.ref a) 1=some (.bm .yY,[.ref a]):=by refine(?_:j7 pg (c.Y.f a) _ _=_);refine e.symm▸?_;rfl
 refine ag (bB ?_);refine(?_:wpAny _ _ (getMethod m (bf 1) _) _ _ _);refine qz ok M T.rl r hf λ g ys c₂ aS b U w r2=> ?_;dsimp only;delta methodCallPos;rw[ar (by simp[ae (ao h.1).2])];refine ag (ax (bM (di rfl rfl (wpAny_items_nil (ax ?_)))));refine(show g= .builtin "list.pop" from w).symm▸?_;refine⟨⟨.machine,Looks.now⟩,?_⟩;obtain⟨y',t,hi,rfl⟩:=r2.one;refine t.symm▸?_;refine(HU (E:=E) (Q:=λ u σ'=>u=v/\σ'=c₂.Y.set a (.list vs.dropLast)) b.rel hi (by exact U▸e) H I ⟨rfl,rfl⟩).go λ x bw cj u a5 j z=> ?_;rw[z.1]at j;exact q x cj bw (b.trans a5) (by exact z.2.symm▸U.symm▸rfl) j
def HZ(ok:bp J)(M:cB J pg){nd st:Nat}{A A':Around}{U:cM}{Q:Flow->Shared->Prop}(T:At J pg d k B Y A c s env)(h:N3 k nd st U=true){a e:Nat}{b:aw}{bJ:List (Int×V)}{ep:Nat}{x:Int}(g1:B.getD st .aC= .ref a)(g3:B.getD nd .aC= .ref e)(l:c.Y.f a= .list b)(m:c.Y.f e= .dict bJ ep)(H:short b=true)(L:b.getLast?=some (.int x))(C:short bJ=true)(I:(bJ.lookup x).isSome=true)(q:∀G s' ep,Step J c s G s' cN->G.Y=(c.Y.set a (.list b.dropLast)).set e (.dict (bJ.filter λ z=> !decide (z.1=x)) ep)->Q .next s'):wpAny J.ay A' (exec U env) Q E s:=by
 refine GX (P:=λ U=>wpAny J.ay A' (exec U env) Q E s) h λ ts p h=> ?_;refine wy (P:=λ ts=>wpAny J.ay A' (exec (.Delete ts p) env) Q E s) h λ t h=> ?_;refine fu (P:=λ t=>wpAny J.ay A' (exec (.Delete [t] p) env) Q E s) h λ o i N h=> ?_;have h:=ao h;refine bU (P:=λ o=>wpAny J.ay A' (exec (.Delete [.Subscript o i N] p) env) Q E s) h.1 λ u up y=> ?_;refine wpAny_Delete (wpAny_deleteEach_cons (wpAny_delete_Subscript (HY T y g3 (by exact vn) λ ov j=>Ac ok M T h.2 g1 l H L λ kx g mf f r w=> ?_)));have j:=j.carry f.carry;obtain⟨t,rfl⟩:=w;refine j.2.symm▸?_;obtain⟨v,n⟩:=qd.mp I;have ne:e≠a:=λ q=>by rw[q,l]at m;exact od m
 exact Lh f.rel j.1 (by rw[r];exact(au ne).trans m) C n λ Lo Yc ur=>wpAny_deleteEach_nil (q _ Lo Yc (f.trans ur) (by refine(?_:g.Y.set e _=_);exact r.symm▸rfl))
def H0{α:Type}(vs:List α):idx vs (-1)=vs.getLast?:=by delta idx;rw[au dD,List.getLast?_eq_getElem?];induction vs with
 |nil=>rfl|cons v l=>exact(ar (af (Int.neg_le_neg (gb.mpr (ji l.length))))).trans (aF (λ n:Nat=>(v::l)[n]?) (aF Int.toNat (Int.subNatNat_of_le (ji l.length)):((-1:Int)+((l.length+1:Nat):Int)).toNat=l.length+1-1))
def H3:isSubtype (.type "StopIteration") (.type "BaseException")=pure true:=by rw[sT];kernel_rfl
def E8:isSubtype (.type ((Manifest.find? "StopIteration").elim "type" λ x=>x.metatype)) (.type "tuple")=pure false:=by rw[sT];kernel_rfl
def Lr{y:Str}{T b:Pos}{l:aQ}{it:Nat}(N:k.var y it=true)(j:one? l=true):b4 0 k (.sub (.var it) (.neg (.lit (.int 1)))) (.Subscript (.Name y T) l b)=true:=by refine qs (P:=λ l=>b4 0 k (.sub (.var it) (.neg (.lit (.int 1)))) (.Subscript (.Name y T) l b)=true) j λ o a p h=> ?_;have h:=ao h;refine(ae h.1).symm▸?_;refine gu (P:=λ a=>b4 0 k (.sub (.var it) (.neg (.lit (.int 1)))) (.Subscript (.Name y T) (.UnaryOp .USub a p) b)=true) h.2 λ c n A h=> ?_;induction c with
 |int i=>refine(show i=1 from bc h).symm▸?_;refine(?_:(true&&k.var y it&&true)=true);refine N.symm▸?_;rfl|_=>exact nf h
def fT{i j:Nat}{o:O}(h:j≠i):(Y.set i o).f j=Y.f j:=au h
def H5{b:Nat}{is:aw}{v:V}(s:Y.f b= .list is)(H:short is=true)(w:is.getLast?=some v):iQ Y (.ref b) (.int (-1))=some v:=by have H:is.length<=100000:=ae H;delta iQ;simp only[s];rw[ar (by simp;exact aa H dD),H0,w]
def H6(ha:∀m,All J pg d m){i it:Nat}{U:cM}(h:QH k i it U=true)(T:At J pg d k B Y A c s env){b j l kk:Nat}{is vs:aw}(g2:B.getD it .aC= .ref b)(m2:c.Y.f b= .list is)(H:short is=true)(m4:is.getLast?=some (.ref j))(M:c.Y.f j= .yQ l kk)(m6:c.Y.f l= .list vs){Q:Flow->Shared->Prop}(q1:∀v G s',vs[kk]? =some v->Step J c s G s' (Own env)->At J pg d k (B.set i v) G.Y A G s' env->G.Y=c.Y.set j (.yQ l (kk+1))->Q .next s')(q2:∀c₁ g dd e h',vs[kk]? =none->Step J c s c₁ g cN->c₁.Y=c.Y->c₁.live j->c₁.fp j=[c₁.ρ j,dd]->sF dd g e h'->E (.ref e) {g with heap:=h'}):wpAny J.ay A (exec U env) Q E s:=by
 refine lZ (P:=λ U=>wpAny J.ay A (exec U env) Q E s) h λ ts v p h=> ?_;refine wy (P:=λ ts=>wpAny J.ay A (exec (.Assign ts v p) env) Q E s) h λ t h=> ?_;refine bU (P:=λ t=>wpAny J.ay A (exec (.Assign [t] v p) env) Q E s) h λ x N h=> ?_;have h:=ao h;have h1:=h.1;refine eX (P:=λ v=>wpAny J.ay A (exec (.Assign [.Name x N] v p) env) Q E s) h.2 λ f as ks L h=> ?_;have h:=ao h;refine(lq (ao h.1).1).symm▸(lq (ao h.1).2).symm▸?_;refine fu (P:=λ f=>wpAny J.ay A (exec (.Assign [.Name x N] (.Call f [] [] L) p) env) Q E s) h.2 λ o e0 sp h=> ?_;have h:=ao h;refine bU (P:=λ o=>wpAny J.ay A (exec (.Assign [.Name x N] (.Call (.Subscript o e0 sp) [] [] L) p) env) Q E s) h.1 λ y yp hy=> ?_;have hw:wE J pg d (.sub (.var it) (.neg (.lit (.int 1)))) (λ v σ'=>v= .ref j/\σ'=c.Y) B Y:=by refine T.sg▸?_;refine(?_:got (B.getD it .aC) (λ v=>opt (iQ c.Y v (.int (-1))) λ u=>u= .ref j/\c.Y=c.Y));refine g2.symm▸?_;refine(?_:opt (iQ c.Y (.ref b) (.int (-1))) _);exact H5 m2 H m4▸⟨rfl,rfl⟩
 refine wpAny_Assign_stores ?_ rfl rfl;show wpAny _ _ (eval (.Subscript (.Name y yp) e0 sp) env>>=λ gg=>callWith L gg [] (backTo L (starEach [] env)) (backToKw L (keywordEach [] env))) _ _ _;refine ag (((ha (.sub (.var it) (.neg (.lit (.int 1))))).e k _ _ B Y A _ c s env (Lr hy h.2) hw T).go λ xv g c₁ vv S r z=> ?_);rw[z.1]at r;refine r.2.symm▸?_;rw[<-z.2]at M m6;have I:=S.rel.obj j r.1;rw[M]at I;obtain⟨dd,C,jL,hl,a,e2⟩:=I;have Wy:=S.rel.obj l hl;rw[m6]at Wy;obtain⟨OC,aM,sq,rs⟩:=Wy;have lj:c₁.live j:=⟨r.1,by refine M.symm▸?_;exact od⟩;refine bM (di rfl rfl (wpAny_items_nil (ax ⟨⟨.machine,(Looks.ld (part:=none) a).andThen .now⟩,?_⟩)));cases n:vs[kk]?with
 |some v'=>
  obtain⟨xv,Yd,rx⟩:=rs.get n;refine wpAny_call (zW a e2 sq.isList (hY.trans Yd) λ h' hit H=> ?_);have w:=S.rel.upd (s':={g with heap:=h'}) lj (.yQ l (kk+1)) (λ b I eb nb=>(H.2 b (λ q=>nb (by refine C.symm▸q.symm▸?_;exact .tail _ (.head _)))).trans eb) (bO H.1.symm) rfl rfl
   λ ky=>⟨dd,C,jL,hl,(H.2 _ jL).trans a,hit⟩
  refine(?_:wpAny _ _ (assign (.Name x N) env xv) _ _ _);exact jE (dP ((T.step S).step w) h1 (rx.carry w.carry) λ bw a5 f7=>q1 v' _ bw n ((S.trans w).bC.trans (a5.mono λ b hb=>hb.own)) f7 (by refine z.2▸?_;rfl))
 |none=>
  exact wpAny_call (zX T.rm.1 a e2 sq.isList (by
   have h0:=List.getElem?_eq_none_iff.mp n
   rw[rs.length]at h0
   exact hY.trans (sX h0)) λ h' e k=>q2 c₁ g dd e h' n S z.2 lj C k)
def xZ(pk:cB J pg){Q:Flow->Shared->Prop}(T:At J pg d k B Y A c s env)(H:Top A env){j g:Nat}(x:c.live j){dd v:Addr}{h':Heap}(M:c.fp j=[c.ρ j,dd])(K:sF dd s v h'){i:ExceptHandler}{f:cM->cM->Bool}(w:T8 i (λ z a b=>(cw z λ z D=>k.is z g (KG .lQ))&&f a b)=true)(q:∀a b n A',f a b=true->Step J c s (c.set j .dead) {s with heap:=n} cN->∀l,wpAny J.ay A' (execs [a,b] env) Q l {s with heap:=n}):wpAny J.ay A (noteFrame (.ref v) env) (λ D aS=>wpAny J.ay A (setFlight (.ref v) none) (λ D bw=>wpAny J.ay A (handleBy (.ref v) env [i]) Q E bw) E aS) E {s with heap:=h'}:=by
 obtain⟨ox,Zm,t0,k1,k2,k3,N,k5,u,k7,G⟩:=K;obtain⟨outer,I⟩:=H;obtain⟨fl,z5,mh⟩:=T.sk;rw[I]at z5;obtain rfl:=aN z5;obtain⟨Wq,L,hL,S9⟩:=mh env (.head _);have Wz:∀b∈c.z,b≠dd:=λ b U q=>(T.rl.d6 b U).2.2.1 (Rel.dH x (by refine M.symm▸q.symm▸?_;exact .tail _ (.head _)));have WA:∀b,b∈v::c.z->(iX h' (v::c.z)).get? b=none:=λ b U=>by rw[dz,ar (List.contains_iff_mem.mpr U)]
 have UI:(iX h' (v::c.z)).StaysIn h':=λ b o t=>by rw[dz]at t;split at t;exact nn t;exact t
 have Rm:∀y:Heap,(iX h' (v::c.z)).StaysIn y->(∀b o,h'.get? b=some o->(∀vs,o.data≠.fields vs)->∃C,y.get? b=some {o with slots:=C})->h'.objs.size<=y.objs.size->Step J c s (c.set j .dead) {s with heap:=y} cN:=λ y q1 q2 q3=>by refine T.rl.E7 x (λ b o t nb nz=>q1 b o ?_) (λ b o t hz=> ?_) (aa k2 q3);rw[dz,au λ q=>(aT.mp (List.contains_iff_mem.mp q)).elim (λ q=>by rw[q,k3]at t;exact nn t) nz];exact k1 b o (λ q=>nb (by refine M.symm▸q.symm▸?_;exact .tail _ (.head _))) t;obtain⟨o',b1,b2⟩:=(T.rl.d6 b hz).2.1;rw[b1]at t;obtain rfl:=aN t;exact q2 b _ (k1 _ _ (Wz _ hz) b1) b2
 delta noteFrame;simp only[hL];refine ag (fJ N u G ?_);rw[au dD];refine aO λ l=>wpAny_entryW (base:=iX h' (v::c.z)) I (oa T.rl Wz k1 (λ b U=>WA b (.tail _ U)) mh) hL N UI (WA _ (.head _)) u (yX.mp G).1 k7 (λ cK hN UJ=> ?_);obtain⟨n1,n2,n3,n4⟩:=hN;refine aO λ l=>wpAny_setFlight_noneW n1 n2 n3 (λ m p1 p2 p3 p4 h=> ?_);have h:=aa (show h'.objs.size<=cK.objs.size from UJ) (show cK.objs.size<=m.objs.size from h);have Rn:∀b o,h'.get? b=some o->(∀vs,o.data≠.fields vs)->∃C,m.get? b=some {o with slots:=C}:=λ b o t hd=>let⟨C,e⟩:=n4 b o t hd;⟨C,p4 b _ e hd⟩;have f7:=T.step (Rm m p1 Rn h);refine T9 (P:=λ i=>wpAny J.ay A (handleBy (.ref v) env [i]) Q E {s with heap:=m}) w λ z a b p w=> ?_;have w:=ao w;refine bU (P:=λ z=>wpAny J.ay A (handleBy (.ref v) env [.ExceptHandler (some z) none [a,b] p]) Q E {s with heap:=m}) w.1 λ z zp h7=> ?_;refine wpAny_handleBy_builtin (X:="StopIteration") (T:="StopIteration") (b:=true) H3 E8 isSubtype_stop (M3 pk f7 h7 λ vv yy hv r=> ?_);rw[xH hv]at r;refine⟨r,?_,?_⟩;obtain⟨oe,D,D,D,D,he,⟨w,D⟩,D⟩:=p3;exact⟨oe,he,w.trans k5⟩;refine(ar rfl).symm▸?_;refine aO λ l=>wpAny_setFlight_noneW p1 p2 p3.at (λ n r1 r2 r3 r4 UK=>q a b n _ w.2 (Rm n r1 (λ b o t hd=>let⟨C,e⟩:=Rn b o t hd;⟨C,r4 b _ e hd⟩) (aa h UK)) _)
def E9(ok:bp J)(N:cB J pg)(ha:∀m,All J pg d m)(i st it nd g:Nat):cC J pg d (.mI i st it nd g):=by
 intro k y Q B Y A E c s env h w T H hE;refine G0 (P:=λ y=>wpAny J.ay A (exec y env) (a8 J pg d k A env c s Q) E s) h λ body C yS fin p h=> ?_;have h:=ao h;have G:=ao h.1;refine(lq (ao G.1).1).symm▸(lq (ao G.1).2).symm▸?_;refine J4 (P:=λ body=>wpAny J.ay A (exec (.Try body C [] [] p) env) (a8 J pg d k A env c s Q) E s) G.2 λ sa I M=> ?_;have M:=ao M;refine wy (P:=λ C=>wpAny J.ay A (exec (.Try [sa,I] C [] [] p) env) (a8 J pg d k A env c s Q) E s) h.2 λ h0 hh=> ?_;have w:QB i st it nd Q B Y:=w;rw[<-T.sg]at w;refine xt w λ a g1 w=>xt w λ b g2 w=>xt w λ e g3 w=>xu w λ ss m1 w=>xu w λ is U w=>Kx w λ bJ ep t w=>dt w λ vj u w=>xt w λ j ej w=>NQ w.2 λ l kk L r=>xu r λ vs m6 r=> ?_;rw[ej]at u;refine wpAny_Try_except (gT (H6 ha M.2 T g2 U w.1 u L m6 (λ v c' s' z S T' e=> ?_) λ c₁ aq dd x0 h' z S u9 lj gh K=> ?_));rw[z,<-e]at r;exact gT (C6 (P:=λ I=>wpAny J.ay A (exec I env) _ _ s') M.1 λ p D=>wpAny_Break ⟨c',_,.brk,S,T',rfl,r⟩);rw[z]at r;have r:MD Q B c.Y a b e j ss is bJ:=r;refine dt r λ vx hx r=>Bu r λ x ex r=> ?_;rw[ex]at hx;have c4:=ao r.1;have c3:=ao c4.1;have c2:=ao c3.1;rw[<-u9]at m1 U t L;refine xZ (f:=λ a b=>N3 k nd st a&&wz b λ e D=>KL k it e) N (T.step S) H lj gh K hh λ sc sd m9 A' hf dB E'=> ?_;have hf:=ao hf;have La:=(T.step S).step dB;have ne:∀{n o},c₁.Y.f n=o->(∀l k,o≠.yQ l k)->(c₁.set j .dead).Y.f n=o:=λ{n o} h hn=>(fT λ q=>by rw[q,L]at h;exact hn _ _ h.symm).trans h;refine gT (HZ ok N La hf.1 g1 g3 (ne m1 nofun) (ne t nofun) c2.1 hx c2.2 c3.2 λ ka mf Ye fb e5=>gT ?_);refine BA (P:=λ sd=>wpAny J.ay A' (exec sd env) _ _ mf) hf.2 λ e0 ep hp=> ?_;have Yg:ka.Y.f b= .list is:=by exact e5▸(fT λ q=>by rw[q,t]at U;exact od U).trans ((fT λ q=>of_decide_eq_false (jJ c4.2) q.symm).trans (ne U nofun))
 have qB:=La.step fb;refine wpAny_Expr_any (Ac ok N qB hp g2 Yg w.1 u λ D OD UL Lu e7 D=>kJ ⟨OD,B,.next,((S.trans dB).trans (fb.trans Lu)).bC,qB.step Lu,rfl,?_⟩) T.fn (eX (P:=λ e0=>swapsWith e0 none ep.line env=pure false) hp λ D D D D D=>rfl);refine e7.symm▸e5.symm▸?_;have q:=r.2 Ye;rw[<-u9]at q;exact q
def B7{f:V}{args:aw}{X:Nat->Mem->Prop}(w:lp J d f args Q X Y):rb J d f args Q X Y:=by induction d with
 |zero=>exact w.elim|succ d=>exact w
def B8{ws:aw}{ks:List (Str×Value)}(r:dn c h [] ws ks):ks=[]:=by induction ks using lC with
 |nil=>rfl|cons=>induction ws using lC<;>exact r.elim
def Lv(ok:bp J)(pk:cB J pg)(z:∀m,All J pg d m)(o:ME)(m:Nat)(args:List ME):cC J pg d (.lp o m args):=by intro k st Q B Y A E c s env h w T H hE;refine BA (P:=λ st=>wpAny J.ay A (exec st env) (a8 J pg d k A env c s Q) E s) h λ e p h=> ?_;refine eX (P:=λ e=>wpAny J.ay A (exec (.Expr e p) env) (a8 J pg d k A env c s Q) E s) h λ g as ks cp h=> ?_;have h:=ao h;refine(lq h.1).symm▸?_;refine bI (P:=λ g=>wpAny J.ay A (exec (.Expr (.Call g as [] cp) p) env) (a8 J pg d k A env c s Q) E s) h.2 λ o' name ap h=> ?_;have b:=ao h;have U:=ao b.1;have M:=ao U.1;have N:=ao M.1;have I:=ao N.1;have u:=ao I.1;refine(bc u.2).symm▸?_;refine wpAny_Expr_any ?_ T.fn rfl;refine(mO u.1).symm▸?_;refine ag (((z o).e k o' _ B Y A E c s env N.2 w T).go λ ov aq c₁ v S r i=>ag (cP (dt i λ x hf i=> ?_)));obtain⟨f,first⟩:=x;delta methodCall;rw[fQ,U.2,b.2];refine ag (bB ?_);refine(?_:wpAny _ _ (getMethod ov (bf m) _) _ _ _);refine qz ok pk S.rel r hf λ y ys c₂ aS L e2 r1 r2=> ?_;rw[<-e2]at i;dsimp only;delta methodCallPos;rw[ar (by simp[ae I.2])];refine ag (ax (bM (kc.go (ea (ks:=[]) (ns:=[]) (P:=λ vs ws Y=>lp J d f (first++vs) (λ D Y=>Q .next B Y) (λ C Y=>Q (.exc C) B Y) Y) (lr λ m D=>z m) (rz λ m D=>z m) jz M.2 (by simp) rfl rfl rfl i (T.step (S.trans L))) λ a bw cj vs ws j rs rk cY=> ?_)));have n:=(S.trans L).trans j;have l:=B7 cY A cj bw y (ys++a.pos) T.rm (T.step n).sk rfl j.rel (r1.carry j.carry) ((r2.carry j.carry).append rs);refine(B8 rk).symm▸?_;refine⟨l.1,wpAny_call (codeAny_mono l.2 λ r s' hr=> ?_)⟩;induction hr with
 |ok h=>obtain⟨x,G,v,e,t,rv,q⟩:=h;exact e▸⟨G,B,.next,(n.trans t).bC,T.step (n.trans t),rfl,q⟩
 |exc e C G g he t f q=>exact he▸hE _ _ ⟨e,C,G,B,g,rfl,(n.trans t).bC,T.step (n.trans t),.Ux f,q⟩
def Ro{K:Frag}{h₀ h:Heap}{N:Addr}{o:Obj}{f:Str->Option Value}(e:K.lookup N=some o)(E:K.In h₀)(X:K.In h)(n:h₀.Ns N f):h.Ns N f:=by obtain⟨z,es,ep,M,r⟩:=n;rw[E _ _ e]at M;rw[<-aN M]at r;exact⟨o,es,ep,X _ _ e,r⟩
def Fb{K:Frag}{N:Addr}(h:nsOkIn K N=true):∃o,K.lookup N=some o:=by unfold nsOkIn at h;generalize K.lookup N=x at h;induction x with
 |none=>exact nf h|some o=>exact⟨o,rfl⟩
def Lw(ok:bp J)(pk:cB J pg)(y:∀m,All J pg d m)(g C:Nat)(args:List ME):cC J pg d (.lW g C args):=by
 intro k st Q B Y A E c s env h w T H hE;refine KD (P:=λ st=>wpAny J.ay A (exec st env) (a8 J pg d k A env c s Q) E s) h λ ex cause p h=> ?_;have h:=ao h;refine(qY.mp h.1).symm▸?_;obtain⟨e,rfl,h5⟩:=w5 h.2;refine eX (P:=λ e=>wpAny J.ay A (exec (.Raise (some e) none p) env) (a8 J pg d k A env c s Q) E s) h5 λ f as ks u h=> ?_;have h:=ao h;refine(lq h.1).symm▸?_;refine bU (P:=λ f=>wpAny J.ay A (exec (.Raise (some (.Call f as [] u)) none p) env) (a8 J pg d k A env c s Q) E s) h.2 λ x np h=> ?_;have h2:=ao h;have M:=ao h2.1;obtain⟨L,w⟩:=w;have SX:(backTo u (starEach as env)).any (·.1)=false:=by rw[<-qc,List.any_eq_true];rintro⟨z,hz,Yh⟩;have:=fE.mp (tU.trans h2.2) z hz;rw[Yh]at this;exact nf this
 have fit:∀{n:Nat},n<=100000->n<=sizeLine:=λ h=>by rw[aK];exact aa h dD
 induction C using nC with
 |zero=>obtain⟨gx,U⟩:=L;refine wpAny_Raise_made F.excRaise_ValueError T.rm.1 (wpAny_Call_ofName (((y (.bT g)).e k (.Name x np) (λ v σ'=>v= .ty .iO/\σ'=c.Y) B Y A E c s env M.1 (by refine(?_:opt pg.G[g]? _);exact U▸⟨rfl,T.sg.symm⟩) T).go λ i aq c₁ v S r z=> ?_));rw[z.1]at r;refine(show i= .type "ValueError" from r).symm▸?_;rw[<-T.sg,<-z.2]at w;refine callWith_excType SX (kc.go (t:=evalArgs (.type "ValueError") true (backTo u (starEach as env)) (backToKw u (keywordEach [] env))) (ea (ks:=[]) (ns:=[]) (f:= .type "ValueError") (P:=λ vs ws Y=>short vs=true/\Q (.exc 0) B Y) (lr λ m D=>y m) (rz λ m D=>y m) jz M.2 (by simp) rfl rfl rfl w (T.step S)) λ a b G vs ws j I rk l=> ?_);obtain⟨ap,ak⟩:=a;obtain rfl:ak=[]:=B8 rk;obtain⟨hp,gn,dr,tk,os⟩:=b;refine aO λ E'=>wpAny_call_exc F.excCall_ValueError (hrest:=fit (I.length▸ae l.1)) λ h' e m sz=> ?_;obtain⟨t,ht,D,D⟩:=m.there;exact⟨e,t,rfl,ht,hE _ _ ⟨e,0,G,B,hp,rfl,(S.trans j).bC,T.step (S.trans j),.made ap m.of sz,l.2⟩⟩
 |succ C=>obtain⟨L,gx,U⟩:=L;obtain⟨nm,q,N,bs,hdct,sn,sub,ab,col,dd,k0,k1,k2,k3,k5,hC,hN,hi⟩:=pk.exc (C+1) L;have H7:J.K.In J.h₀:=λ a o e=>(ok.Qv a o e).1;obtain⟨oN,eN⟩:=Fb hN;have UM:J.h₀.Ns N (J.h₀.nsMap N):= .of_isNs (isNs_of_in H7 hN);rw[arm_exec_Raise];show wpAny _ _ (standAt p>>=λ D=>raiseStmt env (some (eval (.Call (.Name x np) as [] u) env>>=λ v=>standAt p>>=λ D=>pure v)) none) _ _ _;refine ag (cP (wpAny_raiseStmt_made_sub (C:=C+1) (nm:=nm) (q:=q) (N:=N) (bs:=bs) (bm:=C8) (hdct:=hdct) (sn:=sn) (sub:=sub) (ab:=ab) (col:=col) (dd:=dd) (k0:=k0) (k1:=k1) (k2:=k2) (k3:=k3) (k5:=k5) (newId:="ValueError.__new__") F.excBase_ValueError.hasBase T.rm.1 (ag ?_)));show wpAny _ _ (eval (.Name x np) env>>=λ g=>callWith u g [] (backTo u (starEach as env)) (backToKw u (keywordEach [] env))) _ _ _;refine ag (((y (.bT g)).e k (.Name x np) (λ v σ'=>v= .glob (C+1)/\σ'=c.Y) B Y A E c s env M.1 (by refine(?_:opt pg.G[g]? _);exact U▸⟨rfl,T.sg.symm⟩) T).go λ i aq c₁ v S r z=> ?_);rw[z.1]at r;refine(show i= .ref (C+1) from r).symm▸?_;rw[<-T.sg,<-z.2]at w;refine ag (bB (kc.go (t:=evalArgs (.ref (C+1)) true (backTo u (starEach as env)) (backToKw u (keywordEach [] env))) (ea (ks:=[]) (ns:=[]) (f:= .ref (C+1)) (P:=λ vs ws Y=>short vs=true/\Q (.exc (C+1)) B Y) (lr λ m D=>y m) (rz λ m D=>y m) jz M.2 (by simp) rfl rfl rfl w (T.step S)) λ a b G vs ws j I rk l=>ag (cP ?_)));obtain⟨ap,ak⟩:=a;obtain rfl:ak=[]:=B8 rk;have H8:=j.rel.K ok _ _ hC;have Rp:=Ro eN H7 (j.rel.K ok) UM;rw[SX];obtain⟨hp,gn,dr,tk,os⟩:=b;refine ag (wpAny_keeperOf_exc H8 ?_);refine ag (aO λ E'=>wpAny_call_exc_sub (hrest:=fit (I.length▸ae l.1)) F.excBase_ValueError H8 Rp (nsMap_none_of_in H7 hN hi) λ h' e m sz=>ag (bB (wpAny_point (ax (ag (cP (ax ?_)))))));obtain⟨t,ht,D,D⟩:=m.there;exact⟨e,t,rfl,m.keeps _ _ H8,ht,hE _ _ ⟨e,C+1,G,B,hp,rfl,(S.trans j).bC,T.step (S.trans j),.made ap m sz,l.2⟩⟩
def UN{C:Nat}{v:V}(h:Wd C v=true):v= .glob C:=by induction v using vC<;>first|exact nf h|exact aF V.glob (ae h).symm
def UO{C:Nat}{v:V}{y:Value}(n:Ua C v=true)(r:aE c h v y):y=PW C:=by induction C using nC with
 |zero=>have e:v= .ty .iO:=xH n;subst e;exact r|succ C=>have e:v= .glob (C+1):=UN n;subst e;exact r
def OE:isSubtype (.type "ValueError") (.type "BaseException")=pure true:=by rw[sT];kernel_rfl
def Ly:isSubtype (.type ((Manifest.find? "ValueError").elim "type" λ x=>x.metatype)) (.type "tuple")=pure false:=by rw[sT];kernel_rfl
def OF:isSubtype (.type "ValueError") (.type "ValueError")=pure true:=by rw[sT];kernel_rfl
def Rq{h:Option (Nat×V)}{o:cM}(U:G3 k h o=true)(T:At J pg d k B Y A c s env){A':Around}{P:Flow->Shared->Prop}(q:∀G s',Step J c s G s' (Own env)->G.Y=Y->At J pg d k (SU h B) Y A G s' env->P .next s'):wpAny J.ay A' (execs [o] env) P E s:=by induction h with
 |none=>exact NV (P:=λ o=>wpAny J.ay A' (execs [o] env) P E s) U λ p D=>gT (wpAny_Pass (kJ (q c s (.refl T.rl) T.sg T)))|some x=>refine lZ (P:=λ o=>wpAny J.ay A' (execs [o] env) P E s) U λ ts v p h=> ?_;refine wy (P:=λ ts=>wpAny J.ay A' (execs [.Assign ts v p] env) P E s) h λ t h=> ?_;have h:=ao h;refine bU (P:=λ t=>wpAny J.ay A' (execs [.Assign [t] v p] env) P E s) h.1 λ y j l=> ?_;refine gu (P:=λ v=>wpAny J.ay A' (execs [.Assign [.Name y j] v p] env) P E s) h.2 λ cst kd L w=> ?_;refine gT (wpAny_Assign_stores ?_ rfl rfl);refine bA.go (A:=A') (E:=E) (ri (Q:=λ u σ'=>u=x.2/\σ'=c.Y) T.rl w ⟨rfl,rfl⟩) λ g f c₁ u S r z=> ?_;rw[z.1]at r;have e:=T.step S;rw[z.2,T.sg]at e;refine(?_:wpAny _ _ (assign (.Name y j) env g) _ _ _);exact jE (dP e l r λ M N I=>kJ (q c₁ M (S.bC.trans (N.mono λ b U=>U.own)) (z.2.trans T.sg) I))
def Fc(ok:bp J)(h:cB J pg)(R:Rel J c s){C g:Nat}(L:C4 pg g C){x:Addr}{o:Obj}(he:s.heap.get? x=some o)(w:o.cls=PW C){Q:Bool->Shared->Prop}(q:Q true s):wpAny J.ay A (excMatches (.ref x) (PW C)) Q E s:=by induction C using nC with
 |zero=>exact wpAny_excMatches_type ⟨o,he,w⟩ OE Ly OF q|succ C=>obtain⟨nm,e,N,bs,hdct,sn,sub,ab,col,dd,k0,k1,k2,k3,k5,I,l,hi⟩:=h.exc (C+1) L.1;exact wpAny_excMatches_sub_self (R.K ok _ _ I) he w F.excBase_ValueError.hasBase q
def Fd(ok:bp J)(N:cB J pg){C:Nat}{x:Addr}{g:Heap}{gi:Nat}{Q:Flow->Shared->Prop}{h:Option (Nat×V)}{z:Str}{t p:Pos}{i:cM}(T:At J pg d k B Y A c {s with heap:=g} env)(f:Dn c A g C x s.heap)(H:C4 pg gi C)(M:k.is z gi (Ua C)=true)(y:G3 k h i=true)(q:∀G s',Step J c {s with heap:=g} G s' (Own env)->G.Y=Y->At J pg d k (SU h B) Y A G s' env->Q .next s'):wpAny J.ay A (setFlight (.ref x) none) (λ D l=>wpAny J.ay A (handleBy (.ref x) env [.ExceptHandler (some (.Name z t)) none [i] p]) Q E l) E s:=by
 obtain⟨base,a0,en,outer,L,hf,hL,w,up,n,hl⟩:=f;have cX:∀{h':Heap},base.StaysIn h'->(∀b o,g.get? b=some o->b∈c.z->∃sl,h'.get? b=some {o with slots:=sl})->g.objs.size<=h'.objs.size->Step J c {s with heap:=g} c {s with heap:=h'} cN:=
  λ hs hu M=>T.rl.slots (s':={s with heap:=_}) (λ b o e nz=>hs b o (w b o e nz)) hu M rfl rfl
 refine aO λ E'=>wpAny_landsW hl λ j v OG U=> ?_;have a:=rC (s:=s) T.rl up OG;have U:=aa n (show s.heap.objs.size<=j.objs.size from U);have m:=cX v.1 a U;obtain⟨oe,he,Yi⟩:=v.there;refine wpAny_handleBy_cons (codeAny_handlers_test (M3 N (T.step m) M λ vv yy hv r=> ?_)) (by intro q;exact Value.noConfusion q);rw[UO hv r];refine Fc ok N m.rel H he Yi (codeAny_handlers_suite ?_);refine aO λ E'=>lands_againW v λ HW OH OI UP=> ?_;have I:=cX OH.1 (rC (s:=s) T.rl a OI) (aa U (show j.objs.size<=HW.objs.size from UP));have u:=T.step I;rw[T.sg]at u;exact Rq y u λ G s' S' e T'=>q G s' (I.bC.trans S') e T'
def OJ(ok:bp J)(I:cB J pg){a:List MS}(u:du J pg d a)(g C:Nat)(h:Option (Nat×V)):cC J pg d (.EA a g C h):=by intro k st Q B Y A E c s env l w T H hE;refine G0 (P:=λ st=>wpAny J.ay A (exec st env) (a8 J pg d k A env c s Q) E s) l λ b y el fi p l=> ?_;have o:=ao l;have N:=ao o.1;have M:=ao N.1;rw[lq M.1,lq M.2];refine wy (P:=λ y=>wpAny J.ay A (exec (.Try b y [] [] p) env) (a8 J pg d k A env c s Q) E s) o.2 λ i m=> ?_;refine XQ (P:=λ i=>wpAny J.ay A (exec (.Try b [i] [] [] p) env) (a8 J pg d k A env c s Q) E s) m λ z sd hp m=> ?_;have m:=ao m;refine bU (P:=λ z=>wpAny J.ay A (exec (.Try b [.ExceptHandler (some z) none [sd] hp] [] [] p) env) (a8 J pg d k A env c s Q) E s) m.1 λ z zp hz=> ?_;obtain⟨hx,w⟩:=w;refine wpAny_Try_except (aW (u k b _ B Y A _ c s env N.2 w T H λ e s' t=> ?_) (λ f aq eJ=> ?_) λ D D z=>z);obtain⟨x,C',c',bj,g',he,S,G,f,q⟩:=t;obtain⟨rfl,q⟩:=q;exact he▸zZ G H f λ h' n=>Fd (s:={s' with heap:=h'}) ok I G n hx hz m.2 λ c₂ aS aL L gV=>⟨c₂,SU h bj,.next,S.trans aL,by rw[L];exact gV,rfl,by rw[L];exact q⟩;obtain⟨c₁,j,fl,S,U,r,q⟩:=eJ;induction fl with
 |next=>exact(show f= .next from r)▸kJ ⟨c₁,j,.next,S,U,rfl,q⟩|brk=>exact(show f= .brk from r)▸⟨c₁,j,.brk,S,U,rfl,q⟩
 |cont=>exact(show f= .cont from r)▸⟨c₁,j,.cont,S,U,rfl,q⟩|ret v=>obtain⟨x,rfl,r⟩:=r;exact⟨c₁,j,.ret v,S,U,⟨x,rfl,r⟩,q⟩
 |exc C=>exact r.elim
def OK:cC J pg d .dead:=by intro k st Q B Y A E c s env h w T H M;exact w.elim
mutual
def Rr(ok:bp J)(c:cB J pg)(z:∀m,All J pg d m):∀m:MS,cC J pg d m
 | .assign ts e=>HP ok c z ts e| .unpack ts e=>HQ ok c z ts e
 | .kO ts e=>E1 ok c z ts e| .aug i s e=>Ra z i s e
 | .ju o j s e=>E2 ok c z o j s e| .jv o j s e=>E3 ok c z o j s e
 | .dC t a b=>Uz z t (lu ok c z a) (lu ok c z b)| .wu i e a b=>Ll z i e (lu ok c z a) (lu ok c z b)
 | .gq t a b=>Ln z t (lu ok c z a) (lu ok c z b)| .ir u it a=>Rf z u it (lu ok c z a)
 | .oW i it a=>Lq ok c z i it (lu ok c z a)| .ret e=>Q7 z e
 | .expr e=>OA z e| .brk=>Q8
 | .cont=>Oz| .jw t=>HR z t
 | .Ez a=>Rc (lu ok c z a)| .mI i st it nd g=>E9 ok c z i st it nd g
 | .lW g C args=>Lw ok c z g C args| .lp o m args=>Lv ok c z o m args
 | .EA a g C h=>OJ ok c (lu ok c z a) g C h| .dead=>OK
def lu(ok:bp J)(c:cB J pg)(C:∀m,All J pg d m):∀ms:List MS,du J pg d ms
 |[]=>Li|m::ms=>HG (Rr ok c C m) (lu ok c C ms)
end
def stmts(ok:bp J)(c:cB J pg)(s:cR J)(ms:List MS):du J pg d ms:=lu ok c (all ok c s) ms
noncomputable abbrev fEnv(sc:Scope)(cl:List (Str×Addr))(L:Addr)(qual:Str)(f:Addr)(code:Value):Env:=newEnv sc L mainGlobals (cellsFrom (L+1) sc.names cl) qual (some f) code none builtinsNs
noncomputable abbrev kg:Obj:={cls:= .type "frame",data:= .dict #[]}
def LA(R:Rel J c s)(rm:jK d A)(sk:xe A c)(gg:k.G=pg.G){sc:Scope}{cl:List (Str×Addr)}{qual:Str}{f:Addr}{code:Value}(j:k.kd=sc.names)(PX:sc.kind= .function)(M:(sc.names.map (·.1)).Nodup)(ub:∀x,(x,NameKind.free)∈sc.names->(cl.lookup x).isSome=true)(N:∀x a,cl.lookup x=some a->(x,NameKind.free)∈sc.names/\J.h₀.objs.size<=a/\¬c.T a/\a<s.heap.objs.size){B:aw}(p9:∀(x:Str)(i:Nat)(v:V),k.nm.lookup x=some i->B[i]? =some v->v= .aC\/((x,NameKind.free)∈sc.names/\∃a u,cl.lookup x=some a/\s.heap.IsCell a (some u)/\aE c s.heap v u)):∃ys,(∀b∈ys,s.heap.objs.size<=b)/\Step J c s (c.nA ys [s.heap.objs.size]) {s with heap:=pushCells (s.heap.push kg) sc.names} cN/\At J pg d k B c.Y A (c.nA ys [s.heap.objs.size]) {s with heap:=pushCells (s.heap.push kg) sc.names} (fEnv sc cl s.heap.objs.size qual f code)/\(∀b,Own (fEnv sc cl s.heap.objs.size qual f code) b->s.heap.objs.size<=b)/\(∀b,Own (fEnv sc cl s.heap.objs.size qual f code) b->b=s.heap.objs.size\/b∈ys):=by
 have ok:=cellsFrom_ok sc.names (s.heap.push kg) (s.heap.objs.size+1) [] ⟨λ D D hm=>(mn hm),List.Pairwise.nil⟩ (by rw[b9];exact ah _);rw[b9]at ok;generalize Q:pushCells (s.heap.push kg) sc.names=H at ok;have ke:∀b o,s.heap.get? b=some o->H.get? b=some o:=λ b o e=>Q▸pushCells_keeps _ _ b o (bN _ e);have T:H.get? s.heap.objs.size=some kg:=Q▸pushCells_keeps _ _ _ _ (bS _ rfl);have hsz:s.heap.objs.size<=H.objs.size:=bo (b6 T);have G:∀x a,(cellsFrom (s.heap.objs.size+1) sc.names []).lookup x=some a->H.IsCell a none/\s.heap.objs.size<a/\(x,NameKind.cell)∈sc.names:=λ x a h=>⟨(ok.empty x a (lookup_mem h)).1,(ok.empty x a (lookup_mem h)).2,(mi (lookup_mem h)).1⟩;let ys:=(cellsFrom (s.heap.objs.size+1) sc.names []).map (·.2);have g:∀b∈ys,s.heap.objs.size<b/\b<H.objs.size:=λ b U=>by obtain⟨⟨x,a⟩,hp,rfl⟩:=bV.mp U;exact⟨(ok.empty x a hp).2,(ok.empty x a hp).1.lt⟩
 have S:Step J c s (c.nA ys [s.heap.objs.size]) {s with heap:=H} cN:=R.y7 ys [s.heap.objs.size] ke hsz rfl rfl (λ b U=>⟨bo (g b U).1,(g b U).2⟩) λ b U=>by refine(bX.mp U).symm▸?_;exact⟨ah _,λ q=>iI _ (g _ q).1,_,T,nofun⟩
 have nG:∀x a,(fEnv sc cl s.heap.objs.size qual f code).cells.lookup x=some a->(a∈ys/\s.heap.objs.size<a/\(x,NameKind.cell)∈sc.names/\(x,a)∈cellsFrom (s.heap.objs.size+1) sc.names [])\/cl.lookup x=some a:=λ x a h=>by have h:(cellsFrom (s.heap.objs.size+1) sc.names cl).lookup x=some a:=h;rw[gw]at h;cases q:(cellsFrom (s.heap.objs.size+1) sc.names []).lookup x with
  |some b=>rw[q]at h;rw[aN h]at q;exact .inl ⟨bV.mpr ⟨(x,a),lookup_mem q,rfl⟩,(G x a q).2.1,(G x a q).2.2,lookup_mem q⟩|none=>rw[q]at h;exact .inr h
 have l:∀{x kd},(fEnv sc cl s.heap.objs.size qual f code).kindOf x=some kd->(x,kd)∈sc.names:=λ h=>lookup_mem h;have m:∀x a,(fEnv sc cl s.heap.objs.size qual f code).kindOf x=some .cell->(fEnv sc cl s.heap.objs.size qual f code).cells.lookup x=some a->a∈ys/\s.heap.objs.size<a/\(x,a)∈cellsFrom (s.heap.objs.size+1) sc.names []:=λ x a C I=>by rcases nG x a I with q|q;exact⟨q.1,q.2.1,q.2.2.2⟩;have:=(ba M (l C)).symm.trans (ba M (N x a q).1);exact Option.noConfusion rfl (heq_of_eq this) (λ e=>NameKind.noConfusion (eq_of_heq e))
 have w:∀x,(x,NameKind.free)∈sc.names->(fEnv sc cl s.heap.objs.size qual f code).cells.lookup x=cl.lookup x:=λ x h=>by refine(?_:(cellsFrom (s.heap.objs.size+1) sc.names cl).lookup x=_);rw[gw,xJ (λ q=>by have:=(ba M q).symm.trans (ba M h);exact Option.noConfusion rfl (heq_of_eq this) (λ e=>NameKind.noConfusion (eq_of_heq e)))];rfl
 have E:∀b,Own (fEnv sc cl s.heap.objs.size qual f code) b->b=s.heap.objs.size\/b∈ys:=λ b U=>by rcases U with rfl|⟨x,C,I⟩;exact .inl rfl;exact .inr (m x b C I).1
 refine⟨ys,λ b U=>bo (g b U).1,S,⟨rm,rfl,S.rel,⟨PX,rfl,rfl,⟨?_,?_,?_,?_⟩,?_,?_,?_⟩,⟨?_,?_,?_,?_,?_⟩,?_,gg,sk.step S⟩,λ b U=> ?_,E⟩;exact⟨kg,#[],0,T,rfl,λ e he=>by simp at he⟩;intro x L;obtain⟨a,p⟩:=qd.mp (Hn (n:=s.heap.objs.size+1) (l L));refine⟨a,none,?_,(G x a p).1,Nat.ne_of_gt (G x a p).2.1⟩;refine(?_:(cellsFrom (s.heap.objs.size+1) sc.names cl).lookup x=some a);rw[gw,p];rfl;intro x y a L r Ul Um;exact name_of_addr ok.apart (m x a L Ul).2.2 (m y a r Um).2.2;intro y a r I ho;have hm:=l r;rw[w y hm]at I;have gU:=(N y a I).2.2.2;rcases E a ho with rfl|z;exact iI _ gU;exact Nat.lt_asymm gU (g a z).1;intro b U;rcases E b U with rfl|z;exact .inr (bK.mpr (.inl (by exact gM)));exact .inl (bK.mpr (.inl z));intro x a I;rcases nG x a I with q|q;exact⟨aa R.size (bo q.2.1),λ t=>absurd (R.high a t).2 (aD (bo q.2.1)),(g a q.1).2⟩;exact⟨(N x a q).2.1,λ t=>(N x a q).2.2.1 t,ai (N x a q).2.2.2 hsz⟩;intro x L;exact w x (l L)▸ub x (l L);intro x h;rw[j]at h;exact h;intro x h;rw[j]at h;exact h;intro x h;rw[j]at h;exact h;intro x h;rw[j]at h;exact h;intro x h;rw[j]at h;exact .inl h;intro x i v I C hi;rcases p9 x i v I hi with z|⟨z1,a,u,z2,z3,z4⟩;exact .inl z;refine .inr ⟨u,.inr ⟨.inr (ba M z1),a,(w x z1).trans z2,z3.keeps ke⟩,z4.carry S.carry⟩;rcases E b U with rfl|z;exact ah _;exact bo (g b z).1
structure FnAt(J:Cx)(fa:Addr)(fd:FuncData)(body:List cM):Prop where
 lk:∃o,J.K.lookup fa=some o/\o.data= .func fd
 co:fd.scope.isCoroutine=false
 gen:fd.scope.isGenerator=false
 bd:fd.body= .stmts body
 gl:fd.globals=mainGlobals
 bu:fd.builtins=builtinsNs
 cl:fd.closure=[]
 kf:fd.scope.kind= .function
 nd:(fd.scope.names.map (·.1)).Nodup
 nf:∀x,(x,NameKind.free)∉fd.scope.names
 cr:∀c s,Rel J c s->s.heap.CodeRec fd.code fd.qualname
def kh(c:Vw)(h:Heap):List (Str×V)->List (Str×Value)->Prop
 |[],[]=>True|(n,v)::vs,(m,x)::xs=>n=m/\aE c h v x/\kh c h vs xs
 |_,_=>False
def kh.carry{c G:Vw}{h h':Heap}(k:Carry c h G h'){vs:List (Str×V)}{xs:List (Str×Value)}(r:kh c h vs xs):kh G h' vs xs:=by induction vs generalizing xs with
 |nil=>induction xs using lC with
  |nil=>trivial|cons=>exact r.elim
 |cons v vs z=>induction xs using lC with
  |nil=>exact r.elim|cons x xs=>exact⟨r.1,r.2.1.carry k,z r.2.2⟩
inductive M5(J:Cx)(c:Vw)(s:Shared)(Y:Mem)(vals:List (Str×V))(bs:List (Str×Value))(aq:Shared):Prop
 |mk (c₁:Vw) (S:Step J c s c₁ aq cN) (e:c₁.Y=Y) (b:kh c₁ aq.heap vals bs):M5 J c s Y vals bs aq
noncomputable def iY(k:CC)(B:aw):List (Str×V)->aw
 |[]=>B|(x,v)::r=>iY k (match k.nm.lookup x with
  |some i=>B.set i v|none=>B) r
noncomputable def jQ(k:CC)(xs:List Str):Bool:=xs.all λ x=>match k.nm.lookup x with
 |some i=>k.iV x i|none=>false
def c7(Q:fA):Fl->aw->Mem->Prop
 | .next,_,Y=>Q .none Y| .ret v,_,Y=>Q v Y
 |_,_,_=>False
def H9{Q:PUnit->Shared->Prop}(vals:List (Str×V))(bs:List (Str×Value))(B:aw)(Y:Mem)(c:Vw)(s:Shared)(T:At J pg d k B Y A c s env)(u:jQ k (vals.map (·.1))=true)(r:kh c s.heap vals bs)(q:∀s',Step J c s c s' (Own env)->At J pg d k (iY k B vals) Y A c s' env->Q PUnit.unit s'):wpAny J.ay A (forIn bs PUnit.unit λ(x:Str×Value) (D:PUnit)=>storeName env x.1 x.2>>=λ D=>pure (ForInStep.yield PUnit.unit)) Q E s:=by induction vals generalizing bs B s with
 |nil=>induction bs using lC with
  |nil=>rw[List.forIn_nil];exact ax (q s (.refl T.rl) T)|cons=>exact r.elim
 |cons h vs z=>induction bs using lC with
  |nil=>exact r.elim|cons U bs=>obtain⟨n,v⟩:=h;obtain⟨m,x⟩:=U;have u:=ao u;have M:(match k.nm.lookup n with|some i=>k.iV n i|none=>false)=true:=u.1;have q:∀s',Step J c s c s' (Own env)->At J pg d k (iY k (match k.nm.lookup n with|some i=>B.set i v|none=>B) vs) Y A c s' env->Q PUnit.unit s':=q;rw[iL,<-show n=m from r.1];generalize k.nm.lookup n=o at M q;induction o with
   |none=>exact nf M|some i=>exact ag (ag (dP T M r.2.1 λ y t e=>ax (z bs _ y e u.2 (r.2.2.carry t.carry) λ N G I=>q N ((t.mono λ b L=>L.own).trans G) I)))
def mQ{fa:Addr}{o:Obj}{x:FuncData}(m:s.heap.get? fa=some o)(hd:o.data= .func x):Looks J.ay s.heap (keeperOf (.ref fa)) .frame:=by refine(Looks.ld (part:=none) m).andThen ?_;exact hd▸.now
inductive sI(J:Cx)(pg:Pg)(d:Nat)(k:CC)(Y:Mem)(B:aw)(sc:Scope)(cl:List (Str×Addr))(qual:Str)(f:Addr)(code:Value)(A:Around)(c:Vw)(s:Shared)(env:Env)(cj:Vw)(bw:Shared):Prop
 |mk (L:Addr) (hE:env=fEnv sc cl L qual f code) (hL:s.heap.objs.size<=L) (S:Step J c s cj bw (λ b=>s.heap.objs.size<=b)) (T:At J pg d k B Y (A.deeper env) cj bw env) (tp:Top (A.deeper env) env) (own:∀b,Own env b->s.heap.objs.size<=b) (zL:L∈cj.z) (ow:∀b,Own env b->b=L\/b∈cj.y):sI J pg d k Y B sc cl qual f code A c s env cj bw
def Ia{L:Addr}(a:xe A c)(u:env.scope.kind= .function)(hf:env.frame=some L)(s:L∈c.z):xe (A.deeper env) c/\Top (A.deeper env) env:=by
 obtain⟨l,I,t⟩:=a;have e:(A.deeper env).frames=some (env::l):=by refine(?_:A.frames.map _=_);refine I.symm▸?_;rfl
 exact⟨⟨env::l,e,λ e he=>(aT.mp he).elim (λ q=>by exact q▸⟨by refine u.symm▸?_;nofun,L,hf,s⟩) (t e)⟩,l,e⟩
set_option backward.match.sparseCases true in
noncomputable def M6(f:Flow):Value:=match f with
 | .ret v=>v|_=> .none
def enter(ok:bp J){c c₁:Vw}{s y:Shared}(R:Rel J c s)(r:jK (d+1) A)(L:xe A c)(T:Step J c s c₁ y cN)(t:c₁.Y=Y){sc:Scope}{cl:List (Str×Addr)}{vals:List (Str×V)}{bs:List (Str×Value)}(H:kh c₁ y.heap vals bs)(n:k.G=pg.G)(l:k.kd=sc.names)(h:sc.kind= .function)(C:(sc.names.map (·.1)).Nodup)(p:∀x,(x,NameKind.free)∈sc.names->(cl.lookup x).isSome=true)(yU:∀x a,cl.lookup x=some a->(x,NameKind.free)∈sc.names/\J.h₀.objs.size<=a/\¬c₁.T a/\a<y.heap.objs.size){B:aw}(p9:∀(x:Str)(i:Nat)(v:V),k.nm.lookup x=some i->B[i]? =some v->v= .aC\/((x,NameKind.free)∈sc.names/\∃a u,cl.lookup x=some a/\y.heap.IsCell a (some u)/\aE c₁ y.heap v u))(hp:jQ k (vals.map (·.1))=true){qual:Str}{f:Addr}{code:Value}{body:List cM}{o:Result->Shared->Prop}{E:dM}(g:∀env cj j,sI J pg d k Y (iY k B vals) sc cl qual f code A c s env cj j->wpAny J.ay (A.deeper env) (execs body env) (λ f s'=>o (.ok (.ret (M6 f))) s') (λ e s'=>wpAny J.ay (A.deeper env) (leaving env e) (λ D w=>o (.error e) w) (λ e' w=>o (.error e') w) s') j):wpAny J.ay A.in1 (newFunctionEnv sc mainGlobals cl bs qual (some f) code none builtinsNs) (λ env M=>M.heap.NoLimit/\codeAny J.ay A (.func body env) o M) E y:=by obtain⟨ys,nZ,N,gV,G,Rt⟩:=LA (d:=d) (pg:=pg) (k:=k) (A:=A.in1) (qual:=qual) (f:=f) (code:=code) (B:=B) T.rel r.in1 (L.in1.step T) n l h C p yU p9;refine t8 (H9 vals bs _ _ _ _ gV hp (H.carry N.carry) λ j m Q=>⟨m.rel.lim ok,codeAny_func (g _ (c₁.nA ys [y.heap.objs.size]) j ?_)⟩);rw[t]at Q;have I:y.heap.objs.size∈(c₁.nA ys [y.heap.objs.size]).z:= .head _;have z:=Ia (env:=fEnv sc cl y.heap.objs.size qual f code) (show xe A (c₁.nA ys [y.heap.objs.size]) from Q.sk) h rfl I;exact⟨y.heap.objs.size,rfl,T.size,(T.bC.trans N.bC).trans (m.mono λ b U=>aa T.size (G b U)),⟨r.deeper _,Q.sg,Q.rl,Q.en,Q.kd,Q.fv,Q.gg,z.1⟩,z.2,λ b U=>aa T.size (G b U),I,λ b U=>(Rt b U).imp id λ q=>fH _ q⟩
def Ca{sc:Scope}{cl:List (Str×Addr)}{qual:Str}{fa:Addr}{code:Value}{c G:Vw}{s j s':Shared}{f:Flow}(R:Rel J c s)(i:sI J pg d k Y B sc cl qual fa code A c s env G j)(h:a8 J pg d k (A.deeper env) env G j (c7 Q) f s'):GL J c s Q (.ok (.ret (M6 f))) s':=by obtain⟨o,e,a,g,E,r,q⟩:=h;obtain⟨L,D,D,S,D,D,own,D,D⟩:=i;have y:Step J c s o s' cN:=Step.freshen R (S.trans (g.mono own)) λ b U=> .inr U;induction a with
 |next=>exact(show f= .next from r)▸⟨.none,o,.none,rfl,y,rfl,q⟩|ret v=>obtain⟨x,rfl,r⟩:=r;exact⟨x,o,v,rfl,y,r,q⟩
 |_=>exact q.elim
def Cb{n i:Nat}{v:V}(h:(List.replicate n V.aC)[i]? =some v):v= .aC:=(List.mem_replicate.mp (nr h)).2
def x4(ok:bp J)(U:cB J pg)(M:cR J){fa:Nat}{b:FuncData}{body:List cM}(F:FnAt J fa b body)(u:k.kd=b.scope.names)(p:k.G=pg.G){ms:List MS}(j:gd k ms body=true){args:aw}{ns:List Str}{kws:aw}{Q:fA}{Y:Mem}(n:Nat)(vals:List (Str×V))(N:∀(A:Around)(E:dM) c s xs ks,Rel J c s->c.Y=Y->aA c s.heap args xs->dn c s.heap ns kws ks->wpAny J.ay A (bindArgs b ⟨xs,ks⟩) (M5 J c s Y vals) E s)(hp:jQ k (vals.map (·.1))=true)(w:wSs J pg d ms (c7 Q) (iY k (List.replicate n .aC) vals) Y):aJ J (d+1) (.glob fa) args ns kws Q Y:=by intro A c s l xs ks r G I R C H y;refine(show l= .ref fa from C).symm▸?_;obtain⟨o,g,hd⟩:=F.lk;have m:=R.K ok fa o g;refine⟨⟨.frame,mQ m hd⟩,codeAny_call_function (bt (av ..) (fz r.2.1 dD)) m hd F.co F.gen F.bd (F.cr c s R) (aW (N A.in1 _ c s xs ks R I H y) (λ bs aq h=> ?_) λ D D z=>z)⟩;obtain⟨c₁,dh,oh,br⟩:=h;refine F.gl.symm▸F.bu.symm▸F.cl.symm▸?_;refine enter (cl:=[]) (B:=List.replicate n .aC) ok R r G dh oh br p u F.kf F.nd (λ x h=>absurd h (F.nf x)) (λ x a h=>nn h) (λ x i v D h=> .inl (Cb h)) hp λ env cj bw q=> ?_;obtain⟨L,hE,hL,S,T,tp,own,zL,ow⟩:=id q;exact aW (stmts ok U M ms k body (c7 Q) _ Y _ _ _ bw _ j w T tp λ e s' t=>t.none λ D D D h=>h) (λ f mf rS=>Ca R q rS) λ D D z=>z
def Ic(Q:fA)(X:Nat->Mem->Prop):Fl->aw->Mem->Prop
 | .next,_,Y=>Q .none Y| .ret v,_,Y=>Q v Y
 | .exc C,_,Y=>X C Y|_,_,_=>False
def Fe{sc:Scope}{cl:List (Str×Addr)}{qual:Str}{fa:Addr}{code:Value}{c H:Vw}{s i s':Shared}{X:Nat->Mem->Prop}{e:Value}(R:Rel J c s)(sk:xe A c)(En:sI J pg d k Y B sc cl qual fa code A c s env H i)(t:gW J pg d k (A.deeper env) env H i (λ C D Y=>X C Y) e s'):wpAny J.ay (A.deeper env) (leaving env e) (λ D F6=>C3 J A c s Q X (.error e) F6) E s':=by
 obtain⟨x,C,G,bj,g,rfl,S',w,f,q⟩:=t;obtain⟨L,D,D,S,D,D,own,D,D⟩:=En;have y:Step J c s G {s' with heap:=g} cN:=Step.freshen R (S.trans (S'.mono own)) λ b U=> .inr U;obtain⟨l,I,D⟩:=sk;have v:(A.deeper env).frames=some (env::l):=by refine(?_:A.frames.map _=_);refine I.symm▸?_;rfl
 obtain⟨Zn,a,mh⟩:=w.sk;rw[v]at a;obtain rfl:=aN a;obtain⟨Wq,L,hL,S9⟩:=mh env (.head _);induction f with
 |Ux f=>obtain⟨base,u,T,up,M,fl⟩:=f;exact aO λ E'=>wpAny_leaves_onW v hL (fl _ v) λ h' r N z=> .exc x C G g rfl y ⟨base,u,T,rC w.rl up N,aa M z,λ l' p=>by rw[I]at p;exact aN p▸r⟩ q
 |HF n=>
  obtain⟨base,u,en,HV,L',hf,MZ,T,up,M,p⟩:=n;rw[v]at hf;obtain⟨rfl,rfl⟩:=jF (aN hf);unfold leaving;refine ag (wpAny_noteFrame_againW MZ p.2.2.2 ?_);refine aO λ E'=>wpAny_landsW p λ h' OC N z=> .exc x C G g rfl y ⟨base,u,T,rC w.rl up N,aa M z,λ l' A8=>by
   rw[I]at A8
   obtain⟨k1,k2,⟨D,D,k3⟩,k4⟩:=OC
   exact aN A8▸⟨k1,k2,k3,k4⟩⟩ q
 |made args m M=>
  obtain⟨kp,nw,t,he,X8,X9⟩:=id m;have nx:∀b∈G.z,b≠x:=λ b U q=>by obtain⟨o,e,D⟩:=(w.rl.d6 b U).2.1;rw[q]at e;exact nn (nw.symm.trans e)
  have gl:∀b,b∈G.z->(iX g G.z).get? b=none:=λ b U=>by rw[dz,ar (List.contains_iff_mem.mpr U)]
  have st:(iX g G.z).StaysIn g:=λ b o j=>by rw[dz]at j;split at j;exact nn j;exact j
  have T:∀b o,g.get? b=some o->b∉G.z->(iX g G.z).get? b=some o:=λ b o e hz=>by rw[dz,au λ q=>hz (List.contains_iff_mem.mp q)];exact e
  exact aO λ E'=>wpAny_leaves_madeW (base:=iX g G.z) (h:=g) v hL st (oa w.rl nx (λ b o D e=>e) gl mh) m λ h' t' r D D N z=> .exc x C G g rfl y ⟨_,_,T,rC (s:=s') w.rl (λ b o e hz=>⟨o.slots,kp b o e⟩) N,aa M z,λ l' p=>by rw[I]at p;exact aN p▸r⟩ q
def Ae(ok:bp J)(I:cB J pg)(u:cR J){fa:Nat}{b:FuncData}{body:List cM}(F:FnAt J fa b body)(H:k.kd=b.scope.names)(p:k.G=pg.G){ms:List MS}(j:gd k ms body=true){args:aw}{Q:fA}{X:Nat->Mem->Prop}{Y:Mem}(n:Nat)(vals:List (Str×V))(C:∀(A:Around)(E:dM) c s xs ks,Rel J c s->c.Y=Y->aA c s.heap args xs->dn c s.heap [] [] ks->wpAny J.ay A (bindArgs b ⟨xs,ks⟩) (M5 J c s Y vals) E s)(hp:jQ k (vals.map (·.1))=true)(w:wSs J pg d ms (Ic Q X) (iY k (List.replicate n .aC) vals) Y):rb J (d+1) (.glob fa) args Q X Y:=by intro A c s l xs M N y R g ra;refine(show l= .ref fa from g).symm▸?_;obtain⟨o,Ru,hd⟩:=F.lk;have m:=R.K ok fa o Ru;refine⟨⟨.frame,mQ m hd⟩,codeAny_call_function (bt (av ..) (fz M.2.1 dD)) m hd F.co F.gen F.bd (F.cr c s R) (aW (C A.in1 _ c s xs [] R y ra trivial) (λ bs aq h=> ?_) λ D D z=>z)⟩;obtain⟨c₁,dh,oh,br⟩:=h;refine F.gl.symm▸F.bu.symm▸F.cl.symm▸?_;refine enter (cl:=[]) (B:=List.replicate n .aC) ok R M N dh oh br p H F.kf F.nd (λ x h=>absurd h (F.nf x)) (λ x a h=>nn h) (λ x i v D h=> .inl (Cb h)) hp λ env cj bw U=> ?_;obtain⟨L,hE,hL,S,T,tp,own,zL,ow⟩:=id U;refine aW (stmts ok I u ms k body (Ic Q X) _ Y _ _ _ bw _ j w T tp λ e s' t=>Fe R N U t) (λ f mf rS=> .ok (Ca R U ?_)) λ D D z=>z;obtain⟨ka,Ib,G,fb,qB,r,q⟩:=rS;exact⟨ka,Ib,G,fb,qB,r,by induction G<;>first|exact r.elim|exact q⟩
def rE(is:List Int):∀k,preSum (λ i=>is.getD i 0) k=(is.take k).sum
 |0=>rfl|k+1=>by refine(?_:preSum (λ i=>is.getD i 0) k+is.getD k 0=_);refine(rE is k).symm▸?_;by_cases h:k<is.length;rw[List.take_add_one,List.sum_append,gN h];simp[h];have M:is.take k=is:=lM (by exact Nat.not_lt.mp ‹_›);have N:is.take (k+1)=is:=lM (by omega);refine M.symm▸N.symm▸?_;simp[h]
def ints_cons{v:V}{vs:aw}{is:List Int}(h:intsOf (v::vs)=some is):∃j js,v= .int j/\is=j::js/\intsOf vs=some js:=by induction v using vC with
 |int j=>obtain⟨js,M,rfl⟩:=dR.mp (show(intsOf vs).map (j::·)=some is from h);exact⟨j,js,rfl,rfl,M⟩
 |_=>exact nn h
def uv{vs:aw}{is:List Int}{f:aI}(M:intsOf vs=some is)(r:aA c h vs f):is.length=f.length/\∀(i:Nat) x,f[i]? =some x->∃t,x= .int (is.getD i 0) t:=by induction vs generalizing is f with
 |nil=>induction f using lC with
  |nil=>exact aN M▸⟨rfl,λ i x e=>nn e⟩|cons=>exact r.elim
 |cons v vs z=>induction f using lC with
  |nil=>exact r.elim|cons x xs=>obtain⟨j,js,rfl,rfl,e⟩:=ints_cons M;obtain⟨m,A⟩:=z e r.2;refine⟨aF (·+1) m,λ i y T=> ?_⟩;induction i using nC with
   |zero=>exact aN T▸r.1|succ i=>exact A i y T
def Rel.heap(R:Rel J c s){s':Shared}(u:∀b o,s.heap.get? b=some o->s'.heap.get? b=some o)(H:s.heap.objs.size<=s'.heap.objs.size)(U:s'.gens=s.gens)(m:s'.os=s.os):Step J c s c s' cN:=R.other cN (λ b o e D=>u b o e) (λ D h=>h.elim) H U m
def Ie(R:Rel J c s)(g:A.handled=none){v:V}{x:Value}{vs:aw}{is:List Int}(r:aE c s.heap v x)(p:bD c.Y v=some vs)(hi:intsOf vs=some is)(q:Q (.int is.sum) c.Y):bA J A E c s (call (.builtin "sum") [x]) Q:=by
 obtain⟨a,f,rfl,h,m⟩:=cu R r p;obtain⟨u,M⟩:=uv hi m;have I:a<s.heap.objs.size:=by obtain⟨n,e⟩:=h;exact b6 e
 refine aO λ T=>call_sum_walkAnyS (wpAny_pyIter_list h.isList ?_);have N:(s.heap.push {cls:= .type "list_iterator",data:= .fields #[.ref a,.int 0 0]}).objs.size=s.heap.objs.size+1:=b9 ..;refine⟨s.heap.objs.size,_,_,_,f.toArray.size,_,_,λ i=>is.getD i 0,rfl,(Walks.list (prog:=J.prog) (w:=J.w) (A:=A.in1) g s.heap.objs.size a (az I) f.toArray).toS,⟨⟨_,bS _ rfl,rfl,rfl⟩,h.isList.push _⟩,λ b U=> ?_,λ i x L=>M i x (by exact hY.symm.trans L),λ s' y k H=> ?_⟩;refine(?_:b<(Heap.push _ _).objs.size);refine N.symm▸?_;simp only[aT,ck,or_false]at U;rcases U with rfl|rfl;exact bz _;exact fF I;have S:Step J c s c s' cN:=R.heap (λ b o e=>k.heap b o (by simpa using az (b6 e)) (bN _ e)) H k.gens k.os;refine⟨c,.int is.sum,S,⟨y,?_⟩,q⟩;rw[rE];exact cf.symm▸u▸List.take_length.symm▸rfl
def Ig(R:Rel J c s){i:Int}{t:Tok}(q:Q (.int i) c.Y):bA J A E c s (call (.type "int") [.int i t]) Q:=call_int_int ⟨c,.int i,.refl R,⟨t,rfl⟩,q⟩
def Ih(ok:bp J)(R:Rel J c s){v:V}{x:Value}{n:Nat}(r:aE c s.heap v x)(h:Ku c.Y v=some n)(p:n<=1000000)(q:Q (.int n) c.Y):bA J A E c s (call (.builtin "len") [x]) Q:=by have b:∀{a f},SeqAt s.heap "list" a f->f.length=n->bA J A E c s (call (.builtin "len") [.ref a]) Q:=λ{a f} U I=>Calls.call_len_list U.isList (by refine cf.symm▸I.symm▸?_;exact Int.lt_of_le_of_lt (gb.mpr p) dD) ⟨c,.int n,Step.toks R _,⟨_,by rw[cf,I]⟩,q⟩;induction v using vC with
 |str l=>obtain⟨t,rfl⟩:=r;obtain rfl:=aN h;exact call_len_gives (T:="str") rfl F.slot_str_len F.entry_str_len (F.args_str_len_1 _) (gives_str_len _ _) (by omega) (by rw[aP];omega) ⟨c,.int l.length,Step.toks R _,⟨_,by rw[aP]⟩,q⟩
 |list vs=>obtain⟨a,f,rfl,U,D,g⟩:=r;obtain rfl:=aN h;exact b U g.length.symm
 |ref i=>have h:Kt (c.Y.f i)=some n:=h;induction e:c.Y.f i with
  |list vs=>obtain⟨a,f,rfl,U,g⟩:=cu R r (show bD c.Y (.ref i)=some vs by refine(?_:(c.Y.f i).eI=_);refine e.symm▸?_;rfl);rw[e]at h;exact b U (g.length.symm.trans (aN h))
  |dict bJ ep=>obtain⟨hi,rfl⟩:=r;have o:=R.obj i hi;rw[e]at o h;obtain⟨f1,M,N,G⟩:=o;have u:(c.ρ i==sysModules)=false:=lH.mpr λ q=>aD (R.high _ (Rel.dH ⟨hi,λ L=>nomatch e.symm.trans L⟩ (by exact f1▸.head _))).1 (q▸ok.sys);have I:M.length=n:=G.vals.1.symm.trans (aN h);exact call_len_dict u N.dictOf (by refine I.symm▸?_;exact Int.lt_of_le_of_lt (gb.mpr p) dD) ⟨c,.int n,Step.toks R _,⟨_,by rw[I]⟩,q⟩
  |_=>rw[e]at h;exact nn h
 |tuple vs=>obtain⟨a,f,rfl,⟨k,e⟩,D,g⟩:=r;obtain rfl:=aN h;have I:f.length=vs.length:=g.length.symm;exact P.len_tuple e (by refine cf.symm▸I.symm▸?_;omega) ⟨c,.int vs.length,Step.toks R _,⟨_,by rw[cf,I]⟩,q⟩
 |bytes l=>
  obtain⟨D,t,rfl⟩:=r;obtain rfl:=aN h;have I:(bG l).size=l.length:=by exact a7 _
  exact len_bytes (by refine I.symm▸?_;exact aa p dD) ⟨c,.int l.length,Step.toks R _,⟨_,by rw[I]⟩,q⟩
 |_=>first|exact nf h|exact nn h|subst h
def Ff(R:Rel J c s){v:V}{x:Value}{t:Ty}(r:aE c s.heap v x)(h:MB v=some t)(q:Q (.ty t) c.Y):bA J A E c s (call (.type "type") [x]) Q:=by induction v using vC with
 |str l=>obtain⟨u,rfl⟩:=r;obtain rfl:=aN h;exact call_type_of (Tx:="str") rfl dD ⟨c,.ty .str,.refl R,rfl,q⟩
 |bytes l=>obtain⟨D,u,rfl⟩:=r;obtain rfl:=aN h;exact call_type_of (Tx:="bytes") rfl dD ⟨c,.ty .bytes,.refl R,rfl,q⟩
 |bool b=>have r:x= .bool b:=r;subst r;obtain rfl:=aN h;exact call_type_of (Tx:="bool") rfl dD ⟨c,.ty .bool,.refl R,rfl,q⟩
 |int i=>obtain⟨u,rfl⟩:=r;obtain rfl:=aN h;exact call_type_of (Tx:="int") rfl dD ⟨c,.ty .int,.refl R,rfl,q⟩
 |_=>first|exact nf h|exact nn h|subst h
def nh(l:Addr):Meets (Builtin.«bool.__new__» ⟨[.type "bool",.ref l],[]⟩) (λ D R s=>∃items,s.heap.IsList l items/\(items.size:Int)<2^63/\R (.ok (.ret (.bool (!items.isEmpty)))) {s with toks:=s.toks+1+1}):=lL λ prog w A R s H=>by
  obtain⟨hp,g,d,tk,os⟩:=s;obtain⟨items,I,hf,H⟩:=H;have f1:=F.conv_sub_bool
  repeat(any_goals (first|assumption|(with_reducible refine wpAny_truthy_list I hf ?_)|wp_step))
  all_goals first|exact⟨_,rfl,H⟩|exact H|skip
def Fh(R:Rel J c s){v:V}{x:Value}{b:Bool}(r:aE c s.heap v x)(h:cQ c.Y v=some b)(q:Q (.bool b) c.Y):bA J A E c s (call (.type "bool") [x]) Q:=by
 have lst:(∃vs,bD c.Y v=some vs/\vs.length<=1000000/\b= !vs.isEmpty)->bA J A E c s (call (.type "bool") [x]) Q:=by
  rintro⟨vs,e,I,rfl⟩;obtain⟨a,f,rfl,U,d⟩:=cu R r e;have:f.toArray.isEmpty=vs.isEmpty:=by induction vs<;>induction f<;>first|rfl|exact d.elim
  exact call_bool_1 (nh a) ⟨_,U.isList,by refine cf.symm▸d.length▸?_;exact Int.lt_of_le_of_lt (gb.mpr I) dD,rfl,c,.bool (!vs.isEmpty),Step.toks R _,by refine this.symm▸?_;rfl,q⟩
 induction v using vC with
 |bool G=>cases h;refine r.symm▸?_;exact call_bool_bool ⟨c,.bool b,.refl R,rfl,q⟩
 |int i=>obtain rfl:=aN h;obtain⟨t,rfl⟩:=r;exact call_bool_int ⟨c,.bool (i !=0),.refl R,rfl,q⟩
 |none=>obtain rfl:=aN h;exact r▸call_bool_none ⟨c,.bool false,.refl R,rfl,q⟩
 |str y=>
  obtain⟨t,rfl⟩:=r;obtain⟨M,N⟩:=bb h;have M:=ae M;refine call_bool_str (by rw[aP];omega) ⟨c,.bool b,Step.toks R _,?_,q⟩;rw[aP];have:((y.length:Int)!=0)=b:=by refine N▸?_;induction y with
   |nil=>rfl|cons a l=>simp;omega
  refine this.symm▸?_;rfl
 |list vs=>exact lst (jr h)|ref i=>exact lst (jr h)
 |_=>first|exact nf h|exact nn h|subst h
def Ii(R:Rel J c s)(q:Q (.ref c.Y.n) (c.Y.alloc (.set []))):bA J A E c s (call (.type "set") []) Q:=by
 refine call_set_0 λ led=> ?_;have x:(s.heap.push {cls:= .type "set",dict:=none,data:= .set #[] 0 (.fresh 0 0 led)}).objs.size=s.heap.objs.size+1:=b9 ..;have S:=R.new (s':={s with heap:=s.heap.push {cls:= .type "set",dict:=none,data:= .set #[] 0 (.fresh 0 0 led)}}) s.heap.objs.size [s.heap.objs.size] [] (.set []) (λ D D e=>bN _ e) (by exact x▸bR _) rfl rfl
  (λ b U=>by replace U:=bX.mp U;subst U;exact⟨ah _,by exact x▸bz _⟩) (λ b U=>by exact absurd U ck)
  λ N=>⟨rfl,(setObjOf_fresh (knd:=intKind J.prog J.w) led).setOf (bS _ rfl) dD,List.nodup_nil⟩
 exact⟨_,.ref c.Y.n,S,⟨bz _,by refine(?_:_=Value.ref (if c.Y.n=c.Y.n then _ else _));exact(ar rfl).symm▸rfl⟩,q⟩
def Fi(R:Rel J c s){i:Nat}{xs:List Int}{k:Int}{t:Tok}(hi:i<c.Y.n)(e:c.Y.f i= .set xs)(I:xs.length<=1000)(q:Q .none (c.Y.set i (.set (if k∈xs then xs else xs++[k])))):bA J A E c s (call (.builtin "set.add") [.ref (c.ρ i),.int k t]) Q:=by
 have j:=R.obj i hi;rw[e]at j;obtain⟨M,N,nd⟩:=j;have x:c.live i:=⟨hi,by refine e.symm▸?_;exact od⟩;have G:xs.length+1<scanBound:=bt (gK I) dD;have L:(intKind J.prog J.w).is k (.int k t)=true:=by refine(?_:(k==k)=true);exact cZ.mpr rfl
 refine call_set_add (knd:=intKind J.prog J.w) L rfl N G λ h' H z=> ?_;have S:=R.upd (s':={s with heap:=h',toks:=s.toks+1}) x (.set (if k∈xs then xs else xs++[k])) (λ b j l U=>by
   rw[M]at U;simp at U;exact(H.2 b U).trans l) (bO H.1.symm) rfl rfl λ y=>⟨M,?_,?_⟩
 exact⟨_,.none,S,rfl,q⟩;by_cases u:k∈xs;refine(ar u).symm▸?_;rw[ar (by exact af u)]at z;have d:(λ m=>decide (m∈xs)||decide (m=k))=λ m=>decide (m∈xs):=by
  funext m
  by_cases h:m=k;subst h;simp[u];simp[h]
 rw[d]at z;exact z;refine(au u).symm▸?_;rw[au (by simpa using u)]at z;have d:(λ m=>decide (m∈xs)||decide (m=k))=λ m=>decide (m∈xs++[k]):=by funext m;simp
 rw[d]at z;exact bH▸z;by_cases u:k∈xs;exact ar u▸nd;refine(au u).symm▸?_;rw[List.nodup_append];exact⟨nd,by simp,λ a C b U=>by replace U:=bX.mp U;subst U;rintro rfl;exact u C⟩
section
open AutoSeq1 (wpAny_loadPart')
def x5{prog:Program}{w:World}{Q:aI->Shared->Prop}(it:Addr){o:Obj}{items:Array Value}{n:Nat}(m:s.heap.get? it=some o)(p:o.cls= .type "list")(hd:o.data= .seq items n)(hsz:items.size<=sizeLine)(k:∀h',(∀b z,s.heap.get? b=some z->h'.get? b=some z)->s.heap.objs.size<=h'.objs.size->Q items.toList {s with heap:=h'}):wpAny (model prog w) A (collect (.ref it)) Q E s:=aO λ f=>wpAny_collect_seq (hsz:=hsz) it (.inl rfl) m p hd λ h' u U=>k h' u U
def qC(l:Addr)(o:Obj)(items:Array Value)(n:Nat)(p:o.cls= .type "list")(hd:o.data= .seq items n)(hsz:items.size<=sizeLine):Meets (Builtin.«tuple.__new__» ⟨[.type "tuple",.ref l],[]⟩) (λ D R s=>s.heap.get? l=some o/\∀h':Heap,(∀b z,s.heap.get? b=some z->h'.get? b=some z)->s.heap.objs.size<=h'.objs.size->R (.ok (.ret (.ref h'.objs.size))) {s with heap:=h'.push {cls:= .type "tuple",data:= .seq items}}):= .of_wp λ prog w A R s h=>by
  obtain⟨hp,g,d,tk,os⟩:=s;obtain⟨I,h⟩:=h;have r:=sub_tuple_self;have M:=init_tuple_lookup;have N:=madeHere_tuple;have G:Shared.TypeIs ⟨hp,g,d,tk,os⟩ (.ref l) "list":=⟨o,I,p⟩
  wp_walk using wpAny_loadPart' I,wpAny_typeOf G,x5 l I p hd hsz
  intro h' u U;show wpAny _ _ (Builtin.Tuple.tupleExact items.toList.toArray>>=λ v=>ret v) _ _ _;refine ag (j3 ?_ (by refine(?_:items.toList.toArray.size<=sizeLine);exact hsz));refine ax ⟨_,rfl,?_⟩;have e:items.toList.toArray=items:=by rfl
  exact e▸h h' u U
def rU{prog:Program}{w:World}{l:Addr}{items:Array Value}{Q:dM}(I:s.heap.IsList l items)(hsz:items.size<=sizeLine)(h:∀h':Heap,(∀b z,s.heap.get? b=some z->h'.get? b=some z)->s.heap.objs.size<=h'.objs.size->Q (.ref h'.objs.size) {s with heap:=h'.push {cls:= .type "tuple",data:= .seq items}}):wpAny (model prog w) A (call (.type "tuple") [.ref l]) Q E s:=by obtain⟨o,m,p,n,hd⟩:=I;exact callType_new F.called_tuple dD (F.typeCall_tuple_1 _) (F.newCall_tuple_1 _) (λ obj=>F.args_object_init_2 obj _) F.entry_tuple_new (qC l o items n p hd hsz) ⟨m,λ h' u U=>⟨⟨_,bS _ rfl,rfl⟩,h h' u U⟩⟩
end
def Rx(R:Rel J c s){b:Addr}(h:c.N b):b<s.heap.objs.size:=by rcases h with t|t|t;exact(R.high _ t).2;exact(R.d5 _ t).2.1;obtain⟨o,e,D⟩:=(R.d6 _ t).2.1;exact b6 e
def uw:∀{vs:aw}{is:List Int}{f:aI},intsOf vs=some is->aA c h vs f->IntsAre f is
 |[],is,[],M,_=>by obtain rfl:=aN M;exact .nil
 |[],is,_::_,_,r=>r.elim|v::vs,is,[],_,r=>r.elim
 |v::vs,is,x::xs,M,r=>by induction v using vC with
  |int j=>have M:(intsOf vs).map (j::·)=some is:=M;cases e:intsOf vs with
   |none=>rw[e]at M;exact nn M|some js=>rw[e]at M;obtain rfl:=aN M;obtain⟨t,rfl⟩:=r.1;exact .cons _ _ (uw e r.2)
  |_=>exact nn M
def Fj(ok:bp J)(R:Rel J c s){i:Nat}{bJ:List (Int×V)}{ep:Nat}{k:Int}{t:Tok}(hi:i<c.Y.n)(e:c.Y.f i= .dict bJ ep)(q:Q ((bJ.lookup k).getD .none) c.Y):bA J A E c s (call (.builtin "dict.get") [.ref (c.ρ i),.int k t]) Q:=by
 have j:=R.obj i hi;rw[e]at j;obtain⟨M,h,U,N⟩:=j;have b:c.live i:=⟨hi,by refine e.symm▸?_;exact od⟩;have hd:(c.ρ i==sysModules)=false:=sx R (R.high _ (Rel.dH b (by refine M.symm▸?_;exact gM))).1 ok.sys;have u:(intKind J.prog J.w).is k (.int k t)=true:=by refine(?_:(k==k)=true);exact cZ.mpr rfl
 have G:s.TypeIs (.ref (c.ρ i)) "dict":=by obtain⟨o,es,a,L,D⟩:=id U;exact⟨_,a,L.1⟩
 refine call_meetsIn F.slot_dict_get G F.entry_dict_get (F.args_dict_get_2 _ _) (meets_dict_get (intKind J.prog J.w) (c.ρ i) u hd) ⟨_,U.dictOf.mapOf,?_⟩;obtain⟨l1,l2⟩:=c6.lookup (k:=k) N;cases I:bJ.lookup k with
 |none=>rw[I]at q;refine⟨c,.none,Step.toks R _,?_,q⟩;refine(?_:_=Value.none);refine(show(valueAt h k)=none from l2 I).symm▸?_;rfl|some v=>rw[I]at q;obtain⟨x,L,H⟩:=l1 v I;refine⟨c,v,Step.toks R _,?_,q⟩;exact(show(valueAt h k)=some x from L)▸H
def fits{n:Nat}(h:n<=100000):n<=sizeLine:=by refine aK.symm▸?_;exact aa h dD
def Cd(R:Rel J c s){v:V}{x:Value}{vs:aw}(r:aE c s.heap v x)(n:bD c.Y v=some vs)(H:short vs=true)(q:Q (.tuple vs) c.Y):bA J A E c s (call (.type "tuple") [x]) Q:=by obtain⟨a,f,rfl,h,g⟩:=cu R r n;have H:vs.length<=100000:=ae H;refine rU h.isList (by refine cf.symm▸g.length▸?_;exact fits H) λ h' u U=> ?_;have M:(h'.push {cls:= .type "tuple",data:= .seq f.toArray}).objs.size=h'.objs.size+1:=b9 ..;have S:Step J c s c {s with heap:=h'.push {cls:= .type "tuple",data:= .seq f.toArray}} cN:=R.heap (λ b o e=>bN _ (u b o e)) (by refine(?_:_<=(Heap.push _ _).objs.size);exact M▸jk U) rfl rfl;exact⟨c,.tuple vs,S,⟨h'.objs.size,f,rfl,⟨0,bS _ rfl⟩,λ l=>aD U (Rx R l),g.carry S.carry⟩,q⟩
def Ce(R:Rel J c s)(g:A.handled=none){v:V}{x:Value}{vs:aw}{is:List Int}(r:aE c s.heap v x)(n:bD c.Y v=some vs)(hi:intsOf vs=some is)(H:short is=true)(U:∀i∈is,0<=i/\i<256)(q:Q (.bytes (is.map Int.toNat)) c.Y):bA J A E c s (call (.type "bytes") [x]) Q:=by obtain⟨a,m,rfl,e,f⟩:=cu R r n;obtain⟨I,M⟩:=uv hi f;have H:is.length<=100000:=ae H;have b:IntsAre m is:=uw hi f;refine aO λ w=>call_bytes_ints e.isList b U (by exact I▸fits H) g λ h' t k u h=> ?_;have S:Step J c s c {s with heap:=h',toks:=k} cN:=R.heap u h rfl rfl;refine⟨c,.bytes (is.map Int.toNat),S,⟨?_,t,?_⟩,q⟩;intro y T;obtain⟨i,hi,rfl⟩:=bV.mp T;have:=U i hi;omega;unfold byteArr bG;refine fo.symm▸?_;rfl
section
open Builtin
def rV(b U:Array UInt8)(t u:Tok)(e:U.size=256)(M:b.size<=1000000):Meets («bytes.translate» ⟨[.bytes b t,.bytes U u],[]⟩) (λ D R s=>(∀y k,R (.ok (.ret (.bytes (b.map λ c=>U.getD c.toNat c) y))) {s with toks:=k})):=lL λ prog w A R s H=>by
  obtain⟨hp,g,d,tk,os⟩:=s;have n:=λ(b:Array UInt8) (t:Tok) (id:String)=>(KBd.like_eq (b:=b) (t:=t) (id:=id));have N:Bytes.payload (.bytes b t)=pure b:=by rfl
  have ne:¬((U.size !=256)=true):=by simp[e]
  unfold «bytes.translate» Bytes.translateM
  repeat(any_goals (first|assumption|(refine ag (fq (n _ _ _) ?_))|(refine fq (n _ _ _) ?_)|(refine(au ne).symm▸?_)|wp_step))
  have I:(Array.map (λ c=>match some U with|some t=>t.getD c.toNat c|none=>c) (Array.filter (λ x=> !(#[]:Array UInt8).contains x) b))=b.map λ c=>U.getD c.toNat c:=by have h:Array.filter (λ x=> !(#[]:Array UInt8).contains x) b=b:=Array.filter_eq_self.mpr (by simp);exact h.symm▸rfl
  refine I.symm▸?_;by_cases he:((b.map λ c=>U.getD c.toNat c)==b)=true;refine(ar he).symm▸?_;have he:(b.map λ c=>U.getD c.toNat c)=b:=bc he;refine ag (wpAny_rule ?_);refine ag (m:=Bytes.Kind.same _ _) (fq (a:=Value.bytes b t) rfl ?_);rw[he]at H;exact ax ⟨_,rfl,H t tk⟩;refine(au he).symm▸?_;refine ag (wpAny_mkBytes ?_ (by refine Array.size_map.symm▸aK.symm▸?_;omega));exact ax ⟨_,rfl,H _ _⟩
def wL:∀(l:List (UInt8×UInt8))(t:Array UInt8),(l.foldl (λ(t:Array UInt8) x=>match x with|(f,x)=>t.setIfInBounds f.toNat x) t).size=t.size
 |[],t=>rfl|p::l,t=>by rw[List.foldl_cons,wL l];simp
def rW(a b:Array UInt8)(t u:Tok)(he:a.size=b.size):Meets («bytes.maketrans» ⟨[.bytes a t,.bytes b u],[]⟩) (λ D R s=>(∀y k,R (.ok (.ret (.bytes ((a.toList.zip b.toList).foldl (λ t (x:UInt8×UInt8)=>t.setIfInBounds x.1.toNat x.2) ((Array.range 256).map (·.toUInt8))) y))) {s with toks:=k})):=lL λ prog w A R s H=>by
  obtain⟨hp,g,d,tk,os⟩:=s;have n:=λ(b:Array UInt8) (t:Tok) (id:String)=>(KBd.like_eq (b:=b) (t:=t) (id:=id));have ne:¬((a.size !=b.size)=true):=by simp[he]
  unfold «bytes.maketrans» Bytes.maketransM
  repeat(any_goals (first|assumption|(refine ag (fq (n _ _ _) ?_))|(refine fq (n _ _ _) ?_)|(refine(au ne).symm▸?_)|wp_step))
  rw[au (by rw[wL];simp[aK])];refine ag (wpAny_fresh (ax (ax ⟨_,rfl,?_⟩)));exact H _ _
end
section
open Builtin Builtin._codecs
def qD{l:aj}(h:ascii l=true):∀x∈l,x<128:=λ x L=>by unfold ascii at h;rw[fE]at h;exact ae (h x L)
def Fm{I:Type}{f:Nat->I->Sem (ForInStep I)}{l:aj}{b0:I}(b1:I)(Q:l≠[])(M:∀x,f x b0=pure (.yield b1))(N:∀x,f x b1=pure (.done b1)):forIn l b0 f=pure b1:=by induction l using lC with
 |nil=>exact absurd rfl Q|cons x l=>rw[iL,M];show forIn l b1 f=pure b1;induction l using lC with
  |nil=>rfl|cons y l=>rw[iL,N];rfl
def x6{id:String}{self:Value}{l:aj}(h:ascii l=true)(H:l.length<=sizeLine):encodeNarrow id asciiCodec none self (strOf l)=pure (bG l):=by
 have U:∀x∈l,asciiCodec.bad x=false:=λ x L=>by have:=qD h x L;refine(?_:decide (x≥128)=false);simp;assumption
 have hlen:(strOf l).length=l.length:=aP ..;have u:∀(m:aj)(acc:Array UInt8),m.foldl (λ acc y=>acc++(asciiCodec.bytesOf y).toArray) acc=acc++bG m:=by intro m;induction m with
  |nil=>intro acc;rfl|cons a m E=>intro acc;rw[List.foldl_cons,E];refine(?_:acc++ #[a.toUInt8]++bG m=acc++bG (a::m));simp[bG]
 induction l using lC with
 |nil=>kernel_rfl|cons a r=>
  show(forIn (m:=Sem) [0:(strOf (a::r)).length] _ _>>=_)=_;refine(aF (·>>=_) ((Std.Legacy.Range.forIn_eq_forIn_range' ..).trans (Fm ((a::r).length,bG (a::r),{}) ?_ (λ x=> ?_) λ x=> ?_))).trans rfl;refine hlen.symm▸?_;simp[Std.Legacy.Range.size];refine(au dD).trans ?_;refine(ar (show(!asciiCodec.bad a)=true by refine(U a (.head _)).symm▸?_;rfl)).trans ?_;have N:((strOf (a::r)).cps.extract 0 (strOf (a::r)).cps.size)=(a::r).toArray:=by simp[strOf]
  have g:(a::r).toArray.findIdx? asciiCodec.bad=none:=by rw[Array.findIdx?_eq_none_iff];intro x L;exact U x (by simpa using L)
  have b:((a::r).toArray.extract 0 ((none:Option Nat).getD (a::r).toArray.size))=(a::r).toArray:=Array.extract_size;have n:(a::r).toArray.foldl (λ acc y=>acc++(asciiCodec.bytesOf y).toArray) #[]=bG (a::r):=by rw[List.foldl_toArray,u];simp
  have C:((strOf (a::r)).cps.extract 0 (strOf (a::r)).cps.size).findIdx? asciiCodec.bad=none:=N▸g;have f:((((strOf (a::r)).cps.extract 0 (strOf (a::r)).cps.size).findIdx? asciiCodec.bad).getD ((strOf (a::r)).cps.extract 0 (strOf (a::r)).cps.size).size)=(a::r).length:=by refine C.symm▸N.symm▸?_;rfl
  have w:((((strOf (a::r)).cps.extract 0 (strOf (a::r)).cps.size).extract 0 ((((strOf (a::r)).cps.extract 0 (strOf (a::r)).cps.size).findIdx? asciiCodec.bad).getD ((strOf (a::r)).cps.extract 0 (strOf (a::r)).cps.size).size)).foldl (λ acc y=>acc++(asciiCodec.bytesOf y).toArray) #[])=bG (a::r):=by rw[C,N,b,n]
  exact aF (λ z=>pure (ForInStep.yield z)) (Prod.ext ((dy _).trans f) (Prod.ext w rfl));refine(au (by simp[bG];exact H)).trans ?_;have k:(strOf (a::r)).cps[(a::r).length]? =none:=by simp[strOf]
  exact k.symm▸rfl
def Ik{id:String}{self:Value}{x:PySem.Str}:encodeRoad id self x (PySem.Str.ofString "ascii") none=(encodeNarrow id asciiCodec none self x>>=λ b=>mkBytes b):=by kernel_rfl
def x7(l:aj)(t u:Tok)(h:ascii l=true)(H:l.length<=100000):Meets («str.encode» ⟨[.str (strOf l) t,.str (strOf [97,115,99,105,105]) u],[]⟩) (λ D R s=>(∀y k,R (.ok (.ret (.bytes (bG l) y))) {s with toks:=k})):=lL λ prog w A R s G=>by
  obtain⟨hp,g,d,tk,os⟩:=s;have r:(strOf [97,115,99,105,105])=PySem.Str.ofString "ascii":=by decide
  refine r.symm▸?_;unfold «str.encode»
  repeat(any_goals (first|assumption|wp_step))
  rw[au (by decide+kernel)];dsimp only;rw[au (by decide+kernel)];apply ax;refine ag (m:=Str.codecArg _ _ _ _) (fq (a:=none) rfl ?_);apply ag (m:=encodeRoad _ _ _ _ _);refine(?_:wpAny _ _ (encodeRoad _ (.str (strOf l) t) (strOf l) (PySem.Str.ofString "ascii") none) _ _ _);refine Ik.symm▸(x6 h (fits H)).symm▸?_;refine ag (ax ?_);refine wpAny_mkBytes (ax ⟨_,rfl,G _ _⟩) (by simp[bG];exact fits H)
def Af{I:Type}{f:Nat->I->Sem (ForInStep I)}(St:Nat->I):∀(m k i:Nat),(∀j x,i<=j->j<i+m->f x (St j)=pure (.yield (St (j+1))))->forIn (List.range' k m 1) (St i) f=pure (St (i+m))
 |0,k,i,_=>rfl|m+1,k,i,h=>by
  rw[List.range'_succ,iL,h i k (ah _) (by omega)];show forIn (List.range' (k+1) m 1) (St (i+1)) f=_;refine(Af St m (k+1) (i+1) (λ j x M N=>h j x (by exact bo ‹_›) (by omega))).symm▸?_
  congr 2;exact fD _ _ _
def Im{I:Type}{f:Nat->I->Sem (ForInStep I)}(St:Nat->I)(m k i:Nat){b0:I}(U:b0=St i)(h:∀j x,i<=j->j<i+m->f x (St j)=pure (.yield (St (j+1)))):forIn (List.range' k m 1) b0 f=pure (St (i+m)):=by exact U▸Af St m k i h
def Fn{id:String}{l:aj}(h:ascii l=true)(H:l.length<=100000):runDecoder id asciiDecoder none true (bG l) 0 []=pure ((strOf l).cps,l.length):=by
 have hsz:(bG l).size=l.length:=by exact a7 _
 show(forIn (m:=Sem) [0:(bG l).size] _ _>>=_)=_;refine(aF (·>>=_) ((Std.Legacy.Range.forIn_eq_forIn_range' ..).trans ((aF (λ k=>forIn (List.range' 0 k 1) _ _) (?_:_=l.length)).trans (Im (λ i=>(i,((l.take i).toArray:Array Nat),({held:=[]}:Faults))) l.length 0 0 (b0:=(0,(#[]:Array Nat),({held:=[]}:Faults))) rfl λ j x D t=> ?_)))).trans ?_;refine hsz.symm▸?_;simp[Std.Legacy.Range.size]
 rotate_left
 show(pure ((l.take (0+l.length)).toArray,0+l.length):Sem _)=_;rw[dy,List.take_length];rfl;have t:j<l.length:=Nat.lt_of_lt_of_eq t (dy _);refine(au (by refine cf.symm▸List.length_take.symm▸aK.symm▸?_;omega)).trans ?_;refine(au (by exact hsz▸fB.mpr t)).trans ?_;have d:asciiDecoder.find true (bG l) j= .char l[j] (j+1):=by
  have I:l[j]<128:=qD h _ (List.getElem_mem t);have N:((bG l).getD j 0).toNat=l[j]:=by
   have:(bG l).getD j 0=UInt8.ofNat l[j]:=by simp[bG,t]
   refine this.symm▸?_;simp[UInt8.toNat_ofNat];exact aa I dD
  refine(?_:(let c:=((bG l).getD j 0).toNat;if c<128 then Found.char c (j+1)else _)=_);refine N.symm▸?_;exact ar ‹_›
 have g:(l.take (j+1)).toArray=(l.take j).toArray++[l[j]].toArray:=by refine List.take_add_one.symm▸(gN t).symm▸?_;simp
 refine d.symm▸?_;show pure (ForInStep.yield (j+1,(l.take j).toArray++[l[j]].toArray,_))=_;exact g.symm▸rfl
def Io{id:String}{b:Array UInt8}:decodeRoad id b (PySem.Str.ofString "ascii") none []=(runDecoder id asciiDecoder none true b 0 []>>=λ r=>mkStr ⟨r.1⟩):=by kernel_rfl
def Ag{l:aj}(h:ascii l=true)(H:l.length<=100000){t t1 t2:Tok}{d:PySem.Str}:Meets («_codecs.decode.text» ⟨[.bytes (bG l) t,.str (PySem.Str.ofString "ascii") t1,.none,.str d t2],[]⟩) (λ D R s=>R (.ok (.ret (.str (strOf l) s.toks))) {s with toks:=s.toks+1}):=by refine .of_wp λ prog w A R s i=> ?_;show wpAny _ _ (Bytes.bytesLike _ (.bytes (bG l) t)>>=λ r=>_) _ _ s;refine ag (fq KBd.like_eq ?_);refine ag (fq KBd.held_eq ?_);show wpAny _ _ (_codecs.decodeRoad _ (bG l) (PySem.Str.ofString "ascii") none []>>=λ v=>_) _ _ s;refine Io.symm▸(Fn h H).symm▸?_;refine ag (ag (ax ?_));exact wpAny_mkStr (ax ⟨_,rfl,i⟩) (by refine(?_:(strOf l).length<=_);rw[aP];exact fits H)
end
section
open Builtin Builtin._codecs
def meets_decode(l:aj)(t u:Tok)(h:ascii l=true)(H:l.length<=100000):Meets («bytes.decode» ⟨[.bytes (bG l) t,.str (PySem.Str.ofString "ascii") u],[]⟩) (λ D R s=>(∀y k,R (.ok (.ret (.str (strOf l) y))) {s with toks:=k})):=lL λ prog w A R s G=>by
  obtain⟨hp,g,d,tk,os⟩:=s;unfold «bytes.decode» Bytes.decodeM
  repeat(any_goals (first|assumption|wp_step))
  rw[au (by decide+kernel)];dsimp only;rw[au (by decide+kernel)];refine ax ?_;refine ag (m:=Bytes.checkCodecArg _ _ _ _) (fq (a:=()) rfl ?_)
  repeat(any_goals (first|assumption|wp_step))
  by_cases he:(bG l).isEmpty=true;rw[ar he];have I:l=[]:=by induction l using lC with
   |nil=>rfl|cons a r=>exact nf he
  subst I;refine ag (wpAny_rule ?_);refine ag (wpAny_mkStr (ax ⟨_,rfl,G _ _⟩) dD);rw[au he];refine ag (wpAny_mkStr ?_ dD);refine ag (m:=mkStr (PySem.Str.ofString "ascii")) (wpAny_mkStr ?_ dD);refine ag (m:=pure Value.none) (ax ?_);refine ag (wpAny_mkStr ?_ dD);exact ag (call_function_meets KBd.kind_text KBd.plain_text KBd.entry_text (KBd.args_text _ _ _ _) (Ag h H) (ax ⟨_,rfl,G _ _⟩))
end
def Iq{vs:aw}{a:List aj}{f:aI}(M:strsOf vs=some a)(r:aA c h vs f):∃l:List (Str×Tok),f=strValues l/\l.map (·.1)=a.map strOf:=by induction vs generalizing a f with
 |nil=>induction f using lC with
  |nil=>exact aN M▸⟨[],rfl,rfl⟩|cons=>exact r.elim
 |cons v vs z=>induction f using lC with
  |nil=>exact r.elim|cons x xs=>induction v using vC with
   |str j=>obtain⟨js,N,rfl⟩:=dR.mp (show(strsOf vs).map (j::·)=some a from M);obtain⟨l,rfl,d⟩:=z N r.2;obtain⟨t,e⟩:=r.1;exact⟨(strOf j,t)::l,by rw[e];rfl,aF (strOf j::·) d⟩
   |_=>exact nn M
def Ir(sep:aj)(a:List aj):(a.map (·.length)).sum+a.length*sep.length<=(eC sep a).length+sep.length:=by induction a with
 |nil=>rw[List.length_nil,Nat.zero_mul];exact cI _|cons x r z=>induction r using lC with
  |nil=>exact bO (by rw[List.length_singleton,Nat.one_mul];rfl)|cons y r=>rw[show eC sep (x::y::r)=x++sep++eC sep (y::r) from rfl,bH,bH,List.length_cons,Nat.succ_mul,fG,List.sum_cons];exact aa (bO ((aF _ (eO _ _)).trans (Nat.add_add_add_comm _ _ _ _))) (aa (mY z _) (bO (fC _ _ _).symm))
def rI(sep:aj):∀(a:List aj),Str.join (strOf sep) (a.map strOf)=strOf (eC sep a)
 |[]=>rfl|[x]=>by first|rfl|simp[eC,Str.join]
 |x::y::r=>by have z:=rI sep (y::r);refine(?_:strOf x++strOf sep++Str.join (strOf sep) ((y::r).map strOf)=strOf (x++sep++eC sep (y::r)));rw[z,ik,ik]
def Fo(R:Rel J c s){v:V}{x:Value}{vs:aw}{sep:aj}{b:List aj}{t:Tok}(r:aE c s.heap v x)(n:bD c.Y v=some vs)(hi:strsOf vs=some b)(M:short (eC sep b)=true)(N:short b=true)(j:short sep=true)(q:Q (.str (eC sep b)) c.Y):bA J A E c s (call (.builtin "str.join") [.str (strOf sep) t,x]) Q:=by
 obtain⟨a,g,rfl,G,f⟩:=cu R r n;obtain⟨l,rfl,I⟩:=Iq hi f;have M:(eC sep b).length<=100000:=ae M;have N:b.length<=100000:=ae N;have j:sep.length<=100000:=ae j;have C:Builtin.Str.tooLong ((l.map (·.1)).toArray.foldl (·+·.length+(strOf sep).length) 0)=false:=by
  rw[I,StrLaws.joinTotal];have u:((b.map strOf).map (·.length))=b.map (·.length):=by rw[fo];exact vW λ x D=>aP ..
  rw[u,a7,aP];unfold Builtin.Str.tooLong;rw[aK];exact cJ (aD (aa (Ir sep b) (aa (dS M j) dD)))
 refine jY F.slot_str_join (T:="str") rfl F.entry_str_join (F.args_str_join_2 _ _) (meets_str_join_list (strOf sep) t a l C) ⟨G.isList,?_⟩;have U:∀l:List (Str×Tok),l.map (·.1)=b.map strOf->Builtin.Str.glued (strOf sep) (l.map (·.1))=strOf (eC sep b):=λ l I=>by rw[I,StrLaws.glued_eq_join,rI]
 have h:(strOf (eC sep b)).length<=sizeLine:=by rw[aP];exact fits M
 have done:∀(y:Tok)(k:Nat),gj J c s Q (.str (strOf (eC sep b)) y) {s with toks:=k}:=λ y k=>⟨c,.str (eC sep b),Step.toks R _,⟨y,rfl⟩,q⟩
 match l,I with
 |[],I=>have:=U [] I;exact⟨by rw[this];exact h,by rw[this];exact done _ _⟩|[p],I=>
  have:=U [p] I;have e:Builtin.Str.glued (strOf sep) ([p].map (·.1))=p.1:=by rw[StrLaws.glued_eq_join];rfl
  rw[e]at this;obtain⟨L,v,S,d,H⟩:=done p.2 s.toks;exact⟨L,v,S,by rw[this];exact d,H⟩
 |p::o::l,I=>have:=U _ I;exact⟨by rw[this];exact h,by rw[this];exact done _ _⟩
def ty_str:typeOf (.type "str")=pure (.type "type"):=by kernel_rfl
def ON:isSubtype (.type "str") (.type "str")=pure true:=by rw[sT];kernel_rfl
def OO{t:Ty}{o:Option Bool}{b:Bool}(h:MC t o=some b):t= .str/\o=some b:=by induction t<;>first|exact nn h|exact⟨rfl,h⟩
def Ah(R:Rel J c s){v t:V}{x y:Value}{b:Bool}(r:aE c s.heap v x)(o:aE c s.heap t y)(h:CY v t=some b)(q:Q (.bool b) c.Y):bA J A E c s (call (.builtin "isinstance") [x,y]) Q:=by induction v using vC with
 |str l=>induction t using vC with
  |ty t=>obtain⟨rfl,e⟩:=OO h;obtain rfl:=aN e;obtain⟨tk,rfl⟩:=r;exact(show y= .type "str" from o).symm▸call_isinstance (isinstance_true (Tx:="str") ty_str ON) ⟨rfl,⟨c,.bool true,.refl R,rfl,q⟩⟩
  |_=>exact nn h
 |_=>exact nn h
section
variable{prog:Program}{w:World}{R:Result->Shared->Prop}{I:Addr}{fp wr:List Addr}{G:Array GenState->Array GenState->Prop}{n:Nat}{P:Nat->Value->Prop}{St:Nat->Shared->Prop}
def Dx(W:WalksS prog w A.in1 I fp wr G n P St)(S:Addr)(N:S∉fp)(res:Value)(J:Nat->Array Value->Prop)(f:∀i acc v,J i acc->P i v->J (i+1) (acc.push v))(H:∀i acc,J i acc->acc.size<=sizeLine):∀(k i:Nat)(s:Shared)(acc:Array Value)(c:Nat),n-i=k->i<=n->St i s->s.heap.get? S=some {cls:= .type "list",dict:=none,data:= .seq acc c,slots:= #[]}->J i acc->(∀s' d L,Moved (S::wr) G s s'->s'.heap.get? S=some {cls:= .type "list",dict:=none,data:= .seq d L,slots:= #[]}->J n d->R (.ok (.ret res)) s')->codeAny (model prog w) A (.builtin "list.extend.loop" ⟨[.ref S,.ref I,res],[]⟩) R s:=by have C:S∉wr:=λ h=>N (W.sub _ h);have l:∀b∈wr,b∈S::wr:=λ b U=>kI _ U;intro k;induction k with
 |zero=>intro i s acc c u hi M x a z;have g:i=n:=w4 hi (Nat.le_of_sub_eq_zero u);subst g;apply codeAny_builtin F.entry_extend_loop;refine(Around.under_plainId F.plain_extend_loop _).symm▸?_;show wpAny _ A.in1 (pyNext (.ref I)>>=_) _ _ s;refine ag (W.done s _ _ M λ s' hm=> ?_);exact ax (z s' acc c (hm.mono l) (hm.heap S _ C x) a)|succ k m=>intro i s acc c u hi M x a z;have y:i<n:=Nat.lt_of_sub_pos (by rw[u];exact ji k);apply codeAny_builtin F.entry_extend_loop;refine(Around.under_plainId F.plain_extend_loop _).symm▸?_;show wpAny _ A.in1 (pyNext (.ref I)>>=_) _ _ s;refine ag (W.item i s _ _ y M λ v s' p T hm=> ?_);have E:=hm.heap S _ C x;have hp:=f i acc v a p;show wpAny _ A.in1 (updateSeq S (·.push v)>>=_) _ _ _;apply ag;refine wpAny_updateSeq E rfl (ax ⟨plainId_quiet F.plain_extend_loop _,m (i+1) _ (acc.push v) _ (aF Nat.pred u) y (W.frame _ s' _ s'.toks T (ah _) λ b U o e=> ?_) (Heap.get?_update_self _ E rfl) hp λ t d L j r Q=> ?_⟩) (H i acc a) (jk (H _ _ hp));exact(jZ _ _ (λ h:S=b=>N (by exact h▸U))).trans e;refine z t d L (Moved.trans W.gtrans ((hm.mono l).then_heap (by first|exact ah _|exact bR _|omega) λ b o U e=> ?_) j) r Q;exact(jZ _ _ (λ h:S=b=>U (by exact h▸gM))).trans e
end
def qE(S:Addr)(x:Str)(t:Tok):Meets (Builtin.«list.extend» ⟨[.ref S,.str x t],[]⟩) (λ A R s=>A.handled=none/\∃(f:aI)(n:Nat),s.heap.get? S=some {cls:= .type "list",dict:= .none,data:= .seq f.toArray n,slots:= #[]}/\f.length<=100000/\x.cps.size<=100000/\∀(s':Shared)(more:aI)(G:Nat),(∀b o,b≠S->s.heap.get? b=some o->s'.heap.get? b=some o)->s'.gens=s.gens->s'.os=s.os->s'.heap.get? S=some {cls:= .type "list",dict:= .none,data:= .seq (f++more).toArray G,slots:= #[]}->more.length=x.cps.size->(∀m y,more[m]? =some y->SignAt x m y)->R (.ok (.ret .none)) s'):=by
 intro prog w A R s ⟨g,f,n,U,hlen,H,z⟩;refine(?_:wpAny _ A.in1 (Builtin.List.listExtendWith (.ref S) (.str x t) .none) _ _ _);refine ag (wpAny_typeOf (T:="str") (v:= .str x t) rfl ?_);have M:Builtin.List.listSameRef (.ref S) (.str x t)=false:=rfl;have N:(Value.type "str"==Value.type "list")=false:=by decide
 have d:(Value.type "str"==Value.type "tuple")=false:=by decide
 simp only[M,N,d,Bool.or_false,Bool.false_eq_true,if_false];refine ag (wpAny_pyIter_str λ o St W C=> ?_);refine ag (bB ?_);refine ag (wpAny_specialOf (T:="str") (v:= .str x t) rfl F.str_len ?_)
 wp_delta
 refine ag (wpAny_isInstance (T:="str") (v:= .str x t) (b:=true) rfl (by rw[sT];kernel_rfl) ?_);show wpAny _ A.in1 (typeOf (Value.str x t)>>=_) _ _ _;refine ag (wpAny_typeOf (T:="str") (v:= .str x t) rfl ?_);apply ax;rw[au dD];have I:S<s.heap.objs.size:=b6 U;have E:S∉[s.heap.objs.size]:=λ hm=>az I (bX.mp hm);refine ax ⟨plainId_quiet F.plain_extend_loop _,Dx (W A.in1 g).toS S E .none (λ j acc=>∃more:aI,acc.toList=f++more/\more.length=j/\j<=x.cps.size/\∀m y,more[m]? =some y->SignAt x m y) (λ j acc v ⟨more,a1,a2,l,c⟩ hp=>⟨more++[v],by simp[a1],by simp[a2],?_,λ m y L=> ?_⟩) (λ j acc ⟨more,a1,a2,l,_⟩=> ?_) x.cps.size 0 _ f.toArray n rfl (cI _) C (bN o U) ⟨[],by simp,rfl,cI _,λ m x h=>by exact nn h⟩ λ s' vB G hm p ⟨more,a1,a2,l,c⟩=> ?_⟩;obtain⟨k,u,r,_⟩:=hp;exact(yX.mp r).1;rw[List.getElem?_append]at L;split at L;exact c m y L;rename_i I;have:m=more.length:=by by_cases Q:m-more.length=0;exact w4 (Nat.le_of_sub_eq_zero Q) (Nat.not_lt.mp I);rw[List.getElem?_cons]at L;rw[au Q]at L;exact nn L
 rw[this,Nat.sub_self]at L;obtain rfl:=aN L;refine this.symm▸a2.symm▸?_;exact hp;have:acc.size=f.length+more.length:=by refine bH▸a1▸?_;rfl
 refine this.symm▸aK.symm▸?_;exact aa (dS hlen (aa (bO a2) (aa l H))) dD;refine z s' more G (λ b q i e=>hm.heap b q (λ a=> ?_) (bN o e)) hm.gens hm.os (by refine a1▸?_;exact p) a2 c;rcases aT.mp a with h|h;exact i h;exact az (b6 e) (bX.mp h)
def wM{G:Vw}:∀(l:aj)(more:aI)(k:Nat)(L:aj),more.length=l.length->(∀m y,more[m]? =some y->SignAt (strOf L) (m+k) y)->L.drop k=l->aA G h (l.map λ k=>V.str [k]) more
 |[],[],_,_,_,_,_=>trivial|[],_::_,_,_,h,_,_=>by exact Nat.noConfusion h
 |_::_,[],_,_,h,_,_=>by exact Nat.noConfusion h|a::l,x::more,k,L,h,H,hd=>by
  obtain⟨ch,u,M,N⟩:=H 0 x rfl;have e:L[k]? =some a:=by have:=aF (·[0]?) hd;simpa using this
  have d:L[0+k]? =some ch:=by exact hY.symm.trans M
  rw[dy,e]at d;obtain rfl:=aN d;refine⟨⟨u,N⟩,wM l more (k+1) L (by exact lI h) (λ m y T=> ?_) ?_⟩;have:=H (m+1) y (by exact T);exact(fD m k 1:m+(k+1)=m+1+k)▸this;refine jG▸hd.symm▸?_;rfl
def Aj(R:Rel J c s)(w:A.handled=none){i:Nat}{vs:aw}{l:aj}{t:Tok}(hi:i<c.Y.n)(e:c.Y.f i= .list vs)(H:short vs=true)(I:short l=true)(q:Q .none (c.Y.set i (.list (vs++l.map λ k=> .str [k])))):bA J A E c s (call (.builtin "list.extend") [.ref (c.ρ i),.str (strOf l) t]) Q:=by
 have j:=R.obj i hi;rw[e]at j;obtain⟨h,f,⟨n,U⟩,g⟩:=j;have H:vs.length<=100000:=ae H;have I:l.length<=100000:=ae I;have a:c.live i:=⟨hi,by refine e.symm▸?_;exact od⟩;have hsz:(strOf l).cps.size=l.length:=by rfl
 refine aO λ r=>jY F.slot_list_extend ⟨_,U,rfl⟩ F.entry_list_extend (F.args_list_extend_2 _ _) (qE (c.ρ i) (strOf l) t) ⟨w,f,n,U,by refine g.length▸?_;exact H,by refine hsz.symm▸?_;exact I,λ s' more G k1 k2 k3 p k5 u M=> ?_⟩;have S:=R.upd (s':=s') a (.list (vs++l.map λ k=> .str [k])) (λ b j d N=>k1 b j (λ q=>N (by refine h.symm▸q.symm▸?_;exact gM)) d) M k2 k3 λ L=>⟨h,f++more,⟨G,p⟩,(g.carry L).append (wM l more 0 l (by exact k5.symm▸hsz.symm▸rfl) (λ m y T=>u m y T) rfl)⟩;exact⟨_,.none,S,rfl,q⟩
def vD:entryFor table "set_iterator.__iter__"=some Builtin.«dict_keyiterator.__iter__»:=entryFor_alias (id':="dict_keyiterator.__iter__") (by kernel_rfl) rfl (by decide+kernel) (by kernel_rfl)
def oi:∀{xs ks:List Int},xs.Nodup->(∀k∈xs,k∈ks)->ks.length=xs.length->ks.Perm xs
 |[],ks,_,_,h=>(vY.mp h)▸.refl _|x::xs,ks,nd,hm,h=>by have L:=hm x (.head _);have p:=List.perm_cons_erase L;have nd:=gR.mp nd;refine p.trans (.cons _ (oi nd.2 (λ k u=>(List.mem_erase_of_ne λ e=>nd.1 (by exact e▸u)).mpr (hm k (.tail _ u))) ?_));refine(List.length_erase_of_mem L).symm▸h.symm▸?_;rfl
section
variable{prog:Program}{w:World}
def Iu{k:Int}{v:Value}(u:(intKind prog w).is k v=true):∃t,v= .int k t:=by have u:Value.isInt k v=true:=u;induction v with
 |int i t=>exact⟨t,by exact(show i=k from bc u).symm▸rfl⟩|_=>exact nf u
def ib.ints{es:Array (Int×Value)}{t:SetTable}{xs:List Int}(g:ib prog w es t xs){L:List (Int×Value)}(p:L.Perm es.toList):∃ks:List Int,ks.Perm xs/\IntsAre (L.map (·.2)) ks:=by
 have key:∀L:List (Int×Value),(∀e∈L,∃k t,e.2= .int k t)->∃ks:List Int,IntsAre (L.map (·.2)) ks:=by intro L;induction L with
  |nil=>exact λ D=>⟨[],.nil⟩|cons e L z=>intro h;obtain⟨ks,u⟩:=z λ e he=>h e (.tail _ he);obtain⟨k,t,T⟩:=h e (.head _);exact⟨k::ks,by refine fG.symm▸T.symm▸?_;exact .cons _ _ u⟩
 have m:∀(L:List (Int×Value))(ks:List Int),IntsAre (L.map (·.2)) ks->ks.length=L.length/\∀k,(∃e∈L,(intKind prog w).is k e.2=true)->k∈ks:=by intro L;induction L with
  |nil=>intro ks h;cases h;exact⟨rfl,λ k ⟨e,he,_⟩=>mn he⟩
  |cons e L z=>intro ks h;rw[fG]at h;generalize T:e.2=v at h;cases h with
   |cons n t r=>obtain⟨M,N⟩:=z _ r;refine⟨aF Nat.succ M,λ k ⟨G,he,u⟩=> ?_⟩;rcases aT.mp he with rfl|he;obtain⟨y,d⟩:=Iu u;rw[T]at d;exact(Value.int.inj d).1▸.head _;exact .tail _ (N k ⟨G,he,u⟩)
 obtain⟨ks,A⟩:=key L λ e he=>by obtain⟨⟨k,u,D⟩,D⟩:=g.el e (p.mem_iff.mp he);obtain⟨t,h⟩:=Iu u;exact⟨k,t,h⟩
 obtain⟨M,N⟩:=m L ks A;exact⟨ks,oi g.nd (λ k u=>by
  obtain⟨e,he,q⟩:=(g.mem k).mp (af u)
  exact N k ⟨e,p.mem_iff.mpr he,q⟩) (by rw[M,p.length_eq,oI,g.n]),A⟩
def Iv(f:A.handled=none){a:Addr}{xs:List Int}{es:Array (Int×Value)}{ep:Nat}{t:SetTable}{T I:Addr}{L:List (Int×Value)}(g:ib prog w es t xs)(n1:a≠I)(n2:T≠I):WalksS prog w A I [I,a,T] [I] (λ a b=>b=a) L.length (λ i v=>∃x,L[i]? =some x/\v=x.2) (λ i s=>G8 w a ep es t L T I i s.heap)where
 sub:=λ b U=>bX.mp U▸.head _
 grefl:=λ D=>rfl
 gtrans:=λ D D D M N=>N.trans M
 frame:=λ i s h' tk st D k=>by obtain⟨e,v,n,m⟩:=st;exact⟨k a (.tail _ (.head _)) _ e,v,k I (.head _) _ n,m.at (k T (.tail _ (.tail _ (.head _))))⟩
 item:=λ i s Q E hi st q=>Dd f g st n1 n2 (λ x h' H k z j=>q x.2 _ ⟨x,H,rfl⟩ j ⟨λ b o U e=>k b o (λ e=>U (e▸.head _)) e,rfl,rfl,rfl,ah _⟩) λ h' H=>absurd H (by refine(gN hi).symm▸?_;exact sn)
 done:=λ s Q E st q=>Dd f g st n1 n2 (λ x h' H=>absurd H (by refine(sX (ah _)).symm▸?_;exact nn)) λ h' H k z=>q _ ⟨λ b o U e=>k b o (λ e=>U (e▸.head _)) e,rfl,rfl,rfl,ah _⟩
 self:=λ i s Q E st q=>by obtain⟨e,v,n,m⟩:=st;have G:s.TypeIs (.ref I) "set_iterator":=⟨_,n,rfl⟩;refine wpAny_pyIter_slot G o6 (lG o6 G vD ?_ rfl);exact ax ⟨_,rfl,"set_iterator",_,G,iu.lookup,q⟩
def Iw{L:List (Int×Value)}{j:Nat}{x:Int×Value}(h:L[j]? =some x):(L.take (j+1)).map (·.2)=(L.take j).map (·.2)++[x.2]:=by refine List.take_add_one.symm▸h.symm▸eG.symm▸?_;rfl
def Ak{d:Addr}{xs:List Int}{Q:aI->Shared->Prop}(hh:A.handled=none)(hS:mE prog w s.heap d xs)(hQ:∀(s':Shared)(acc:aI)(ks:List Int),(∀b o,s.heap.get? b=some o->s'.heap.get? b=some o)->s'.gens=s.gens->s'.os=s.os->ks.Perm xs->IntsAre acc ks->Q acc s'):wpAny (model prog w) A (collect (.ref d)) Q E s:=by
 obtain⟨es,ep,tb,a,g⟩:=hS;have z:d<s.heap.objs.size:=b6 a;refine ag (wpAny_runValue (codeAny_builtin F.entry_proto_collect ?_));refine(Around.under_plainId F.plain_proto_collect _).symm▸?_;refine ag (j3 ?_);refine ax ⟨plainId_quiet F.plain_list_iadd _,codeAny_builtin F.entry_list_iadd ?_⟩;refine(Around.under_plainId F.plain_list_iadd _).symm▸?_;have n:d≠s.heap.objs.size:=az z;generalize C:s.heap.push {cls:= .type "list",data:= .seq ([]:aI).toArray}=H;have y:H.objs.size=s.heap.objs.size+1:=by rw[<-C,b9]
 have hold:∀b o,s.heap.get? b=some o->H.get? b=some o:=λ b o e=>C▸bN _ e;have Yj:H.get? s.heap.objs.size=some {cls:= .type "list",data:= .seq ([]:aI).toArray}:=C▸bS _ rfl;have c:=hold _ _ a;have hT:(⟨H,s.gens,s.drawn,s.toks,s.os⟩:Shared).TypeIs (.ref d) "set":=⟨_,c,rfl⟩;refine(?_:wpAny _ A.in1 (Builtin.List.listExtendWith (.ref s.heap.objs.size) (.ref d) (.ref s.heap.objs.size)) _ _ ⟨H,s.gens,s.drawn,s.toks,s.os⟩);refine ag (wpAny_typeOf hT ?_);have h1:Builtin.List.listSameRef (.ref s.heap.objs.size) (.ref d)=false:=by simp[Builtin.List.listSameRef,Ne.symm n]
 have h2:(Value.type "set"==Value.type "list")=false:=by decide
 have h3:(Value.type "set"==Value.type "tuple")=false:=by decide
 simp only[h1,h2,h3,Bool.or_false,Bool.false_eq_true,if_false];refine ag (tQ c g λ L T I U dr hp G zI Uj Yk st=> ?_);refine ag (bB ?_);have f:=G _ _ c;have u:(⟨U,s.gens,dr,s.toks,s.os⟩:Shared).TypeIs (.ref d) "set":=⟨_,f,rfl⟩;refine ag (wpAny_specialOf u F.slot_set_len.lookup ?_)
 wp_delta
 refine ag (wpAny_isInstance u (b:=true) (by rw[sT];kernel_rfl) ?_);refine ag (wpAny_typeOf u ?_);apply ax;rw[ar dD];refine ag (wpAny_rule ?_);apply ag (m:=Builtin.List.listTouch _);have t:IsL U s.heap.objs.size #[] 0:=G _ _ Yj;refine ag (wpAny_updateSeq t rfl ?_ (by trivial) (by trivial));have l:=t.update (·.push Value.none);refine wpAny_updateSeq l rfl ?_ (by trivial) (by trivial);have r:=l.update (·.pop);generalize Yl:(U.update s.heap.objs.size (Obj.mapSeq (·.push Value.none))).update s.heap.objs.size (Obj.mapSeq (·.pop))=i at r;have M:∀b o,b≠s.heap.objs.size->U.get? b=some o->i.get? b=some o:=λ b o k e=>by refine Yl▸(jZ _ _ (Ne.symm k)).symm▸(jZ _ _ (Ne.symm k)).symm▸?_;exact e
 have N:s.heap.objs.size<I:=by exact ai (y▸bz _) zI
 have Ym:d≠I:=az (fz z N);have WK:T≠s.heap.objs.size:=λ e=>Yk.elim (λ q=>n (q.symm.trans e)) λ q=>by rw[e]at q;exact Nat.not_succ_le_self _ (y▸q)
 have g1:=g.PS;have Yn:L.length<=1000:=by refine hp.length_eq.symm▸oI.symm▸?_;exact g1
 obtain⟨ks,k1,k2⟩:=g.ints hp;have Yo:G8 w d ep es tb L T I 0 i:=by obtain⟨D,v,p,si⟩:=st;exact⟨M _ _ n f,v,M _ _ (Nat.ne_of_gt N) p,si.at (M T · WK)⟩
 refine ax ⟨plainId_quiet F.plain_extend_loop _,Dx (Iv (A:=A.in1) hh g Ym (az Uj)) s.heap.objs.size (λ hm=> ?_) _ (λ j acc=>acc.toList=(L.take j).map (·.2)) (λ j acc v a1 ⟨x,hx,p⟩=>by rw[Array.toList_push,a1,Iw hx,p]) (λ j acc a1=> ?_) L.length 0 _ #[] _ rfl (cI _) Yo r rfl λ s' vB c' hm P2 a1=> ?_⟩;simp only[aT,ck,or_false]at hm;rcases hm with h|h|h;exact az N h;exact n h.symm;exact WK h.symm;rw[<-oI,a1,a7,List.length_take];exact fits_of_scanBound (bt (aa (Nat.min_le_right _ _) Yn) dD);skip;refine ag (wpAny_load P2 ?_);rw[List.take_length]at a1;refine ax (hQ s' vB.toList ks (λ b o e=>hm.heap b o (λ hb=> ?_) (M b o (az (b6 e)) (G _ _ (hold _ _ e)))) hm.gens hm.os k1 (by refine a1.symm▸?_;exact k2));simp only[aT,ck,or_false]at hb;rcases hb with h|h;exact az (b6 e) h;rw[h]at e;exact Nat.lt_asymm N (b6 e)
end
def Al{ns G:List Int}(hp:G.Perm ns)(H:G.Pairwise (·<=·)):G=sortI ns:=by refine List.Perm.eq_of_pairwise (le:=(·<=·)) (λ a b D D M N=>Int.le_antisymm M N) H ?_ (hp.trans (List.mergeSort_perm ns _).symm);have:=List.pairwise_mergeSort (le:=λ(a b:Int)=>decide (a<=b)) (λ a b c M N=>by simp at*;exact Int.le_trans ‹_› ‹_›) (λ a b=>by simp;omega) ns;exact this.imp λ h=>by exact ae h
def Cf{v:V}{x:Value}{vs:aw}{xs:aI}(a:aE c h v x)(b:aA c h vs xs):aA c h (v::vs) (x::xs):=⟨a,b⟩
def Iz{vs:aI}{ns:List Int}(p:IntsAre vs ns):aA c h (ns.map V.int) vs:=by
 have key:∀(vs:aI)(ns:List Int),IntsAre vs ns->aA c h (ns.map V.int) vs:=by intro vs;induction vs with
  |nil=>intro ns p;cases p;exact trivial
  |cons x vs z=>intro ns p;cases p with
   |cons n t r=>exact fG▸Cf ⟨t,rfl⟩ (z _ r)
 exact key vs ns p
set_option maxHeartbeats 4000000 in
def Fp(R:Rel J c s){x:Value}{is:List Int}(u:is.length<60)(w:∀(A':Around)(f:dM)(t:aI->Shared->Prop),A'.handled=A.handled->(∀(s':Shared)(acc:aI)(ks:List Int),(∀b o,s.heap.get? b=some o->s'.heap.get? b=some o)->s'.gens=s.gens->s'.os=s.os->ks.Perm is->IntsAre acc ks->t acc s')->wpAny J.ay A' (collect x) t f s)(q:Q (.list ((sortI is).map .int)) c.Y):bA J A E c s (call (.builtin "sorted") [x]) Q:=by
 apply Calls.call_function_entry kind_sorted plain_sorted entry_sorted (args_sorted1 _);unfold Builtin.«sorted»;refine ag (m:=checkCount "sorted" 1 1 _) (ax ?_);refine ag (aO λ f=>w _ _ _ rfl λ y acc ks k1 k2 k3 hp n N=> ?_);have T:Step J c s c y cN:=R.heap k1 N k2 k3;have I:=T.rel;have M:acc.length<64:=by refine n.length.symm▸hp.length_eq.symm▸?_;exact fz u dD
 refine ag (j3 ?_ (by refine(?_:acc.toArray.size<=sizeLine);exact cf.symm▸fits (aa (bo M) dD)));have h:(y.heap.push (seqObj "list" acc.toArray 0)).get? y.heap.objs.size=some (seqObj "list" acc.toArray 0):=bS _ rfl;refine ag (bB (lG slot_list_sort ⟨_,h,rfl⟩ entry_list_sort (list_sort_tree (s:={y with heap:=y.heap.push (seqObj "list" acc.toArray 0)}) h n M λ out H a1 a2 l=>⟨_,rfl,?_⟩) (args_list_sort _)));refine ax ⟨_,rfl,?_⟩;have p:(y.heap.push (seqObj "list" acc.toArray 0)).objs.size=y.heap.objs.size+1:=size_push' ..;have k:Step J c y c {y with heap:=sortedHeap (y.heap.push (seqObj "list" acc.toArray 0)) y.heap.objs.size acc out} cN:=I.heap (λ b o j=>by
   have U:b<y.heap.objs.size:=b6 j
   rw[sortedHeap_old (az U) (by exact p▸fF U),Heap.get?_push_ne _ _ _ (az U)]
   exact j) (by
   delta sortedHeap
   rw[Heap.size_update,size_push',size_push',Heap.size_update,p]
   exact av _ 3) rfl rfl
 obtain⟨d,G⟩:=sortedHeap_at (out:=out) h;have L:=Al (a2.trans hp) l;subst L;refine⟨c,V.list ((sortI is).map V.int),T.trans k,⟨y.heap.objs.size,out.toList,rfl,⟨d,?_⟩,λ r=> ?_,Iz a1⟩,q⟩;exact G;exact iI _ (Rx I r)
def Am(R:Rel J c s)(f:A.handled=none){v:V}{x:Value}{is:List Int}(r:aE c s.heap v x)(e:C1 c.Y v=some is)(I:is.length<60)(q:Q (.list ((sortI is).map .int)) c.Y):bA J A E c s (call (.builtin "sorted") [x]) Q:=by refine Fp R I (λ A' T j g b=> ?_) q;induction v using vC with
 |tuple vs=>obtain⟨a,l,rfl,h,D,m⟩:=r;obtain⟨n,w⟩:=h;have p:=uw e m;refine wpAny_collect_seq a (.inr rfl) w rfl rfl (λ h' k=> ?_) ?_;exact b _ _ is k rfl rfl (.refl _) p;exact fits_of_scanBound (bt (bO p.length) (fz I dD))
 |ref i=>obtain⟨hi,rfl⟩:=r;have t:=R.obj i hi;rw[O.EB e]at t;exact Ak (g.trans f) t.2 b
 |_=>exact nn e
section
open Builtin
def Cg(b:Array UInt8)(t:Tok)(id:String):Bytes.takeBuffer? id (.bytes b t) 0=pure (some (b,none)):=by unfold Bytes.takeBuffer?;rw[KBy.special_eq KBy.look_buffer,KBy.own_buffer,show((0:Int)==Bytes.fullReadOnly)=false from rfl,KBy.buffer_eq];kernel_rfl
def Ci(b:Array UInt8)(t:Tok)(id:String):Bytes.takeBufferQuiet? id (.bytes b t) 0=pure (some (b,none)):=by unfold Bytes.takeBufferQuiet?;rw[Cg];rfl
def RF{Y:Type}{prog:Program}{w:World}{Q:Y->Shared->Prop}{F:Nat->Y->Sem (ForInStep Y)}(st:Nat->Y){r:Std.Legacy.Range}(l:List.range' r.start r.size r.step=[0,1,2])(h:∀i,i<3->∀t:ForInStep Y->Shared->Prop,t (.yield (st (i+1))) s->wpAny (model prog w) A (F i (st i)) t E s)(q:Q (st 3) s):wpAny (model prog w) A (forIn r (st 0) F) Q E s:=by rw[Std.Legacy.Range.forIn_eq_forIn_range',l,iL];refine ag (h 0 dD _ ?_);show wpAny _ _ (forIn [1,2] _ _) _ _ _;rw[iL];refine ag (h 1 dD _ ?_);show wpAny _ _ (forIn [2] _ _) _ _ _;rw[iL];refine ag (h 2 dD _ ?_);exact ax q
def IA{prog:Program}{w:World}{Q:Unit->Shared->Prop}{keep:aI}:∀(l:List (Array UInt8×Tok)),Q () s->wpAny (model prog w) A (Bytes.joinLetGo (l.map λ p=>(.bytes p.1 p.2,none)) keep) Q E s
 |[],q=>ax q|p::l,q=>ag (wpAny_letGo (IA l q))
def IB(l:List (Array UInt8×Tok)):(l.map λ p=>(Value.bytes p.1 p.2,(none:Option Value))).any (λ x=>x.1.onHeap)=false:=by induction l with
 |nil=>rfl|cons p l z=>rw[fG,List.any_cons,z];rfl
noncomputable def upTo(l:List (Array UInt8×Tok))(i:Nat):Array (Array UInt8)×List (Value×Option Value):=(((l.take i).map (·.1)).toArray,(l.take i).map λ p=>(.bytes p.1 p.2,none))
def An(p q r:Array UInt8×Tok)(t:Tok)(a:Addr)(h:p.1.size+q.1.size+r.1.size<=100000):Meets («bytes.join» ⟨[.bytes #[] t,.ref a],[]⟩) (λ D R s=>s.heap.IsList a ([p,q,r].map λ p=>Value.bytes p.1 p.2).toArray/\∀y k,R (.ok (.ret (.bytes (p.1++(q.1++r.1)) y))) {s with toks:=k}):=lL λ prog w A R s ⟨⟨o,T,j,n,hd⟩,H⟩=>by
  have G:s.TypeIs (.ref a) "list":=⟨o,T,j⟩;unfold «bytes.join» Bytes.joinM;refine ag (m:=selfAndOne _ _) (fq (a:=(Value.bytes #[] t,Value.ref a)) rfl ?_);show wpAny _ _ (Bytes.joinItems (.ref a)>>=_) _ _ _;refine ag (ag (wpAny_typeOf G (ax ?_)));refine ag (wpAny_seqItems T hd ?_);refine ag (RF (upTo [p,q,r]) (by simp[Std.Legacy.Range.size,List.range']) (λ i hi Q v=> ?_) ?_);refine ag (wpAny_seqItems T hd ?_);dsimp only;rw[show(Bytes.Kind.bytes==Bytes.Kind.bytearray||(upTo [p,q,r] i).2.any λ x=>x.1.onHeap)=false from IB _,au iJ];have U:[p,q,r][i]? =some [p,q,r][i]:=gN hi;generalize [p,q,r][i]=b at U;have e:([p,q,r].map λ p=>Value.bytes p.1 p.2).toArray.getD i .none= .bytes b.1 b.2:=by rw[Array.getD_eq_getD_getElem?,hY,gL,U];rfl
  rw[e];refine ag (bB (fq (Ci _ _ _) ?_));dsimp only;refine ag (wpAny_seqItems T hd ?_);dsimp only;rw[au (by rw[bne_self_eq_false];exact iJ)];refine ax ?_;have d:upTo [p,q,r] (i+1)=((upTo [p,q,r] i).1.push b.1,(upTo [p,q,r] i).2++[(.bytes b.1 b.2,none)]):=by unfold upTo;rw[List.take_add_one,U];simp
  exact d▸v;refine ag (m:=Bytes.payload _) (fq (a:= #[]) rfl ?_);have I:Bytes.tooLong ((upTo [p,q,r] 3).1.foldl (·+·.size) ((#[]:Array UInt8).size*((upTo [p,q,r] 3).1.size-1)))=false:=by refine KBy.tooLong_not (aa ?_ (aa h dD));refine(?_:(#[p.1,q.1,r.1]:Array (Array UInt8)).foldl (·+·.size) (0*(3-1))<=_);rw[Nat.zero_mul];refine(?_:0+p.1.size+q.1.size+r.1.size<=_);rw[dy];exact ah _
  have l:Bytes.joined #[] (upTo [p,q,r] 3).1.toList=p.1++(q.1++r.1):=by refine(?_:((#[]++p.1)++ #[]++q.1)++ #[]++r.1=_);simp
  rw[I,l,au iJ];refine ag (m:=Bytes.Kind.new _ _) (wpAny_mkBytes ?_ (by rw[Array.size_append,Array.size_append,<-fC];exact fits h));refine ag (bB (wpAny_point ?_));refine ag (IA [p,q,r] ?_);exact ax ⟨_,rfl,H _ _⟩
end
def ID{l:aj}{k:Nat}(h:k<l.length)(d:UInt8):(bG l).getD k d=UInt8.ofNat (l[k]):=by simp[bG,h]
def Cj{U l:aj}(a:U.length=256)(I:∀y∈l,y<256):(bG l).map (λ c=>(bG U).getD c.toNat c)=bG (nS U l):=by
 have e:∀k∈l,(bG U).getD (UInt8.ofNat k).toNat (UInt8.ofNat k)=UInt8.ofNat (U.getD k 0):=λ k u=>by
  have M:(UInt8.ofNat k).toNat=k:=by exact UInt8.toNat_ofNat'▸oJ (I k u)
  have N:k<U.length:=by exact a▸I k u
  rw[M,ID N];simp[N]
 refine(?_:((l.map UInt8.ofNat).toArray).map _=((l.map λ k=>U.getD k 0).map UInt8.ofNat).toArray);refine List.map_toArray.symm▸fo.symm▸fo.symm▸?_
 congr 1
 exact vW λ k u=>e k u
def Fq{U l:aj}(I:∀y∈U,y<256):∀y∈nS U l,y<256:=by intro y T;unfold nS at T;obtain⟨k,u,rfl⟩:=bV.mp T;refine(jX).symm▸?_;cases e:U[k]?with
 |none=>trivial|some z=>exact I z (nr e)
noncomputable def tabOf(g:Nat->Nat):Array UInt8:=bG ((List.range 256).map g)
def Fs{g:Nat->Nat}{f x:Nat}(hf:f<256):(tabOf g).setIfInBounds f (UInt8.ofNat x)=tabOf λ k=>if k=f then x else g k:=by unfold tabOf bG;apply Array.ext;simp;intro i M N;rw[Array.getElem_setIfInBounds];simp;by_cases h:f=i;subst h;simp;simp[h,Ne.symm h];simpa using M
def Ao:∀(l:List (Nat×Nat))(g:Nat->Nat),(∀p∈l,p.1<256)->(l.map λ p=>(UInt8.ofNat p.1,UInt8.ofNat p.2)).foldl (λ(t:Array UInt8) (x:UInt8×UInt8)=>t.setIfInBounds x.1.toNat x.2) (tabOf g)=tabOf λ k=>(l.reverse.lookup k).getD (g k)
 |[],g,_=>rfl|p::l,g,h=>by
  have hp:p.1<256:=h p (by exact gM);refine fG.symm▸List.foldl_cons.symm▸?_;have a:(UInt8.ofNat p.1).toNat=p.1:=by exact UInt8.toNat_ofNat'▸oJ hp
  refine(?_:List.foldl _ ((tabOf g).setIfInBounds (UInt8.ofNat p.1).toNat (UInt8.ofNat p.2)) _=_);refine a.symm▸(Fs hp).symm▸(Ao l _ λ q o=>h q (by simp[o])).symm▸?_
  congr 1
  funext k
  rw[nu,List.lookup_append];cases l.reverse.lookup k with
  |some v=>rfl|none=>
   refine(?_:(if k=p.1 then p.2 else g k)=(List.lookup k [p]).getD (g k));rw[fm];by_cases u:k=p.1;simp[u];have:(k==p.1)=false:=by simpa using u
   refine this.symm▸?_;exact au ‹_›
def Ck{a b:aj}(C:∀y∈a,y<256):((bG a).toList.zip (bG b).toList).foldl (λ(t:Array UInt8) (x:UInt8×UInt8)=>t.setIfInBounds x.1.toNat x.2) ((Array.range 256).map (·.toUInt8))=bG (gr a b):=by
 have e:(Array.range 256).map (·.toUInt8)=tabOf λ k=>k:=by unfold tabOf bG;apply Array.ext;exact Array.size_map;intro i M N;simp
 have d:(bG a).toList.zip (bG b).toList=(a.zip b).map λ p=>(UInt8.ofNat p.1,UInt8.ofNat p.2):=by
  delta bG;simp[List.zip_map]
  try rfl
 refine e.symm▸d.symm▸(Ao _ _ λ p hp=>C p.1 (List.of_mem_zip hp).1).symm▸?_;rfl
def Ft{a b:aj}(U:∀y∈b,y<256):∀y∈gr a b,y<256:=by intro y T;unfold gr at T;obtain⟨k,u,rfl⟩:=bV.mp T;cases e:(a.zip b).reverse.lookup k with
 |none=>simpa using u|some z=>
  have:(k,z)∈(a.zip b).reverse:=by generalize (a.zip b).reverse=l at e;induction l with
   |nil=>exact nn e|cons p l E=>
    rw[fm]at e;by_cases u:k==p.1;rw[u]at e;have:k=p.1:=by exact ae u
    obtain rfl:=aN e;subst this;exact gM;have f:(k==p.1)=false:=by exact(qc _).mp u
    rw[f]at e;exact kI _ (E e)
  exact U z (List.of_mem_zip (qe.mp this)).2
def sub_one{l:aj}{ch k:Nat}(u:k<l.length):Builtin.Str.subAt (strOf l) (strOf [ch]) k=(l[k]==ch):=by rw[StrLaws.subAt_eq];refine(?_:((l.drop k).take 1==[ch])=_);rw[qV u];refine(?_:([l[k]]==[ch])=_);refine(?_:(l[k]==ch&&true)=_);exact Bool.and_true _
def LC{l:aj}{ch:Nat}(m:Nat):∀(k f:Nat)(a:Array Nat),k+m=l.length+1->f<=k->a.size<=k->((forIn (m:=Id) (List.range' k m) (a,f) (StrLaws.occBody (strOf l) (strOf [ch]) l.length (l.length+1))).run.fst).size=a.size+(l.drop k).count ch:=by induction m with
 |zero=>intro k f a u hf C;rw[List.drop_of_length_le (i:=k) (bo (Nat.lt_of_lt_of_eq (bz _) u.symm))];rfl|succ m y=>intro k f a u hf C;rw[List.range'_succ,iL];have E:k+1+m=l.length+1:=(Nat.succ_add_eq_add_succ k m).trans u;by_cases I:k<l.length;by_cases e:l[k]=ch;have w:(((a.size<l.length+1/\f<=k)/\k+(strOf [ch]).length<=l.length)/\Builtin.Str.subAt (strOf l) (strOf [ch]) k=true):=⟨⟨⟨bt C (fF I),hf⟩,I⟩,(sub_one I).trans (cZ.mpr e)⟩;have z:=y (k+1) (k+1) (a.push k) E (ah _) (by rw[lK];exact gK C);rw[lK]at z;rw[qV I,List.count_cons,ar (cZ.mpr e),<-fC,fD];refine Eq.trans ?_ z;unfold StrLaws.occBody;rw[ar w];rfl;have w:¬(((a.size<l.length+1/\f<=k)/\k+(strOf [ch]).length<=l.length)/\Builtin.Str.subAt (strOf l) (strOf [ch]) k=true):=λ q=>e (bc ((sub_one I).symm.trans q.2));have z:=y (k+1) f a E (jk hf) (jk C);rw[qV I,List.count_cons,au (λ q=>e (bc q)),Nat.add_zero];refine Eq.trans ?_ z;unfold StrLaws.occBody;rw[au w];rfl;have w:¬(((a.size<l.length+1/\f<=k)/\k+(strOf [ch]).length<=l.length)/\Builtin.Str.subAt (strOf l) (strOf [ch]) k=true):=λ q=>I q.1.2;have z:=y (k+1) f a E (jk hf) (jk C);rw[List.drop_of_length_le (Nat.not_lt.mp I)];rw[List.drop_of_length_le (jk (Nat.not_lt.mp I))]at z;refine Eq.trans ?_ z;unfold StrLaws.occBody;rw[au w];rfl
def LD(l:aj)(ch:Nat):(Builtin.Str.occurrences (strOf l) (strOf [ch]) 0 (strOf l).length ((strOf l).length+1)).length=l.count ch:=by rw[StrLaws.occ_eq,aP,oI];exact(LC (l.length+1) 0 0 #[] (dy _) (ah _) (ah _)).trans (dy _)
def Fu:entryFor table "bytes.translate"=some Builtin.«bytes.translate»:=entryFor_of_tree (by kernel_rfl)
def Ap:entryFor table "bytes.join"=some Builtin.«bytes.join»:=entryFor_of_tree (by kernel_rfl)
def Fv:entryFor table "bytes.maketrans"=some Builtin.«bytes.maketrans»:=entryFor_of_tree (by kernel_rfl)
def Fw(a b:Value):checkBuiltinCall "bytes.maketrans" ⟨[a,b],[]⟩=pure ():=by kernel_rfl
def Fx:plainId "bytes.maketrans"=true:=by decide+kernel
def ux{e:aj}(h:isAscii e=true):e=[97,115,99,105,105]:=ae h
section
variable{α:Type}{h₀:Heap}{r:α}
def iw{args:aw}{xs:aI}{k:V->Option α}{f:Value}(h:(match args with|[v]=>k v|_=>none)=some r)(U:aA c h₀ args xs)(g:∀v x,aE c h₀ v x->k v=some r->bA J A E c s (call f [x]) Q):bA J A E c s (call f xs) Q:=by obtain⟨v,e,h⟩:=NL h;rw[e]at U;obtain⟨x,M,r⟩:=U.one;exact M▸g v x r h
def eW{args:aw}{xs:aI}{k:V->V->Option α}{f:Value}(h:(match args with|[v,w]=>k v w|_=>none)=some r)(U:aA c h₀ args xs)(g:∀v w x y,aE c h₀ v x->aE c h₀ w y->k v w=some r->bA J A E c s (call f [x,y]) Q):bA J A E c s (call f xs) Q:=by obtain⟨v,w,e,h⟩:=GG h;rw[e]at U;obtain⟨x,y,M,q,o⟩:=U.two;exact M▸g v w x y q o h
def pj{v:V}{x:Value}{k:Nat->Option α}{f:Value}{F:Value->aI}(h:(match v with| .ref i=>k i|_=>none)=some r)(q:aE c h₀ v x)(g:∀i,i<c.Y.n->k i=some r->bA J A E c s (call f (F (.ref (c.ρ i)))) Q):bA J A E c s (call f (F x)) Q:=by obtain⟨i,e,h⟩:=Bs h;rw[e]at q;exact q.2▸g i q.1 h
def x8{v:V}{x:Value}{k:Int->Option α}{f:Value}{F:Value->aI}(h:(match v with| .int i=>k i|_=>none)=some r)(q:aE c h₀ v x)(g:∀i t,k i=some r->bA J A E c s (call f (F (.int i t))) Q):bA J A E c s (call f (F x)) Q:=by obtain⟨i,e,h⟩:=iR h;rw[e]at q;obtain⟨t,e⟩:=q;exact e▸g i t h
def kW{v:V}{x:Value}{k:aj->Option α}{f:Value}{F:Value->aI}(h:(match v with| .str i=>k i|_=>none)=some r)(q:aE c h₀ v x)(g:∀l t,k l=some r->bA J A E c s (call f (F (.str (strOf l) t))) Q):bA J A E c s (call f (F x)) Q:=by obtain⟨i,e,h⟩:=GH h;rw[e]at q;obtain⟨t,e⟩:=q;exact e▸g i t h
def iF{v:V}{x:Value}{k:aj->Option α}{f:Value}{F:Value->aI}(h:(match v with| .bytes i=>k i|_=>none)=some r)(q:aE c h₀ v x)(g:∀l t,(∀y∈l,y<256)->k l=some r->bA J A E c s (call f (F (.bytes (bG l) t))) Q):bA J A E c s (call f (F x)) Q:=by obtain⟨i,e,h⟩:=GJ h;rw[e]at q;obtain⟨U,t,e⟩:=q;exact e▸g i t U h
def dI{a b:V}{Y σ':Mem}{p:Bool}{P:Prop}(h:(if p then some (a,Y)else none)=some (b,σ'))(q:Q b σ')(g:p=true->Q a Y->P):P:=by have h:=bb h;obtain⟨rfl,rfl⟩:=dX h.2;exact g h.1 q
def x9{I:Type}{o:Option I}{f:I->V×Mem}{y:V×Mem}{P:Prop}(h:o.map f=some y)(q:Q y.1 y.2)(g:∀b,o=some b->Q (f b).1 (f b).2->P):P:=by obtain⟨t,u,h⟩:=dR.mp h;exact g t u (h▸q)
end
def U1(R:Rel J c s)(f:A.handled=none){t:Ty}{args:aw}{xs:aI}{v:V}{σ':Mem}(U:aA c s.heap args xs)(h:d8 c.Y (.ty t) args=some (v,σ'))(q:Q v σ'):bA J A E c s (call (.type t.name) xs) Q:=by induction t with
 |int=>exact iw h U λ v x r h=>x8 (F:=λ z=>[z]) h r λ i t h=>by obtain⟨rfl,rfl⟩:=dX (aN h);exact Ig R q
 |bytes=>exact iw h U λ v x r h=>by obtain⟨vs,M,h⟩:=q9 h;obtain⟨is,N,h⟩:=GK h;exact dI h q λ H q=>Ce R f r M N (ao H).1 (λ i hi=>have z:=ao (fE.mp (ao H).2 i hi);⟨ae z.1,ae z.2⟩) q
 |tuple=>exact iw h U λ v x r h=>by obtain⟨vs,M,h⟩:=q9 h;exact dI h q λ H q=>Cd R r M H q
 |set=>obtain⟨e,h⟩:=NK h;rw[e]at U;obtain⟨rfl,rfl⟩:=dX h;exact U.none▸Ii R q
 |type=>exact iw h U λ v x r h=>x9 h q λ t I q=>Ff R r I q|bool=>exact iw h U λ v x r h=>x9 h q λ t I q=>Fh R r I q
 |_=>exact nn h
def U2(ok:bp J)(R:Rel J c s)(f:A.handled=none){b:Bi}{args:aw}{xs:aI}{v:V}{σ':Mem}(e:aA c s.heap args xs)(h:d8 c.Y (.bi b) args=some (v,σ'))(q:Q v σ'):bA J A E c s (call (.builtin b.id) xs) Q:=by induction b with
 |sum=>exact iw h e λ v x r h=>by obtain⟨vs,M,h⟩:=q9 h;obtain⟨is,N,h⟩:=GK h;exact dI h q λ H q=>Ie R f r M N q
 |sorted=>exact iw h e λ v x r h=>by obtain⟨is,M,h⟩:=GK h;exact dI h q λ H q=>Am R f r M (ae H) q
 |len=>exact iw h e λ v x r h=>by obtain⟨n,M,h⟩:=NO h;exact dI h q λ H q=>Ih ok R r M (ae H) q
 |isinstance=>exact eW h e λ v w x y o i h=>x9 h q λ t I q=>Ah R o i I q|_=>exact nn h
def Cm(R:Rel J c s){l:aj}{k:Nat}{t u:Tok}(q:Q (.int (l.count k:Nat)) c.Y):bA J A E c s (call (.builtin "str.count") [.str (strOf l) t,.str (strOf [k]) u]) Q:=SC.count (by
  refine(?_:gj J c s Q (.int ((Builtin.Str.occurrences (strOf l) (strOf [k]) 0 (strOf l).length ((strOf l).length+1)).length:Nat) s.toks) _)
  rw[LD]
  exact⟨c,.int _,Step.toks R _,⟨_,rfl⟩,q⟩)
def Aq(R:Rel J c s){l e:aj}{t u:Tok}(H:(isAscii e&&ascii l&&decide (l.length<=100000))=true)(q:Q (.bytes l) c.Y):bA J A E c s (call (.builtin "str.encode") [.str (strOf l) t,.str (strOf e) u]) Q:=by have j:=ao H;have M:=ao j.1;exact ux M.1▸jY F.slot_str_encode (T:="str") rfl F.entry_str_encode (F.args_str_encode_2 _ _) (x7 _ t u M.2 (ae j.2)) λ f k=>⟨c,.bytes _,Step.toks R _,⟨λ y d=>fz (qD M.2 y d) dD,f,rfl⟩,q⟩
def Ar(R:Rel J c s){l e:aj}{t u:Tok}(H:(isAscii e&&ascii l&&decide (l.length<=100000))=true)(q:Q (.str l) c.Y):bA J A E c s (call (.builtin "bytes.decode") [.bytes (bG l) t,.str (strOf e) u]) Q:=by have j:=ao H;have M:=ao j.1;refine(ux M.1).symm▸(show strOf [97,115,99,105,105]=PySem.Str.ofString "ascii" by decide).symm▸?_;exact jY FB.slot_bytes_decode (T:="bytes") (typeIs_bytes _ _ _) FB.entry_bytes_decode rfl (meets_decode _ t u M.2 (ae j.2)) λ y k=>⟨c,.str _,Step.toks R _,⟨y,rfl⟩,q⟩
def IE{sep l:aj}{vs:aw}(h:C2 sep vs=some l):sep=[]/\∃a b c,vs=[.bytes a,.bytes b,.bytes c]/\l=a++(b++c):=by induction sep using lC with
 |cons=>exact nn h|nil=>
  refine⟨rfl,?_⟩
  match vs,h with
  |[x,y,z],h=>obtain⟨a,k,h⟩:=vV.mp h;obtain⟨b,d,h⟩:=vV.mp h;obtain⟨c,N,h⟩:=dR.mp h;exact⟨a,b,c,by rw[V.iC k,V.iC d,V.iC N],h.symm⟩
  |[],h=>exact nn h|[_],h=>exact nn h
  |[_,_],h=>exact nn h|_::_::_::_::_,h=>exact nn h
def Co(R:Rel J c s){v:V}{x:Value}{vs:aw}{sep l:aj}{t:Tok}(r:aE c s.heap v x)(n:bD c.Y v=some vs)(d:C2 sep vs=some l)(H:short l=true)(q:Q (.bytes l) c.Y):bA J A E c s (call (.builtin "bytes.join") [.bytes (bG sep) t,x]) Q:=by
 obtain⟨a,m,rfl,e,f⟩:=cu R r n;obtain⟨rfl,b1,b2,I,rfl,rfl⟩:=IE d;obtain⟨w,C,u,rfl,⟨g1,t1,rfl⟩,⟨g2,t2,rfl⟩,⟨g3,N,rfl⟩⟩:=f.three;have U:∀l:aj,(bG l).size=l.length:=λ l=>by exact a7 _
 have H:(b1++(b2++I)).length<=100000:=ae H;rw[bH,bH]at H;refine jY tT (T:="bytes") (typeIs_bytes _ _ _) Ap rfl (An (bG b1,t1) (bG b2,t2) (bG I,N) t a (by rw[U,U,U,fC];exact H)) ⟨e.isList,λ g k=> ?_⟩;refine⟨c,.bytes _,Step.toks R _,⟨λ y j=> ?_,g,?_⟩,q⟩;rcases bK.mp j with j|j;exact g1 y j;exact(bK.mp j).elim (g2 y) (g3 y);delta bG;simp
def U3(ok:bp J)(R:Rel J c s)(g:A.handled=none){b:Bm}{args:aw}{xs:aI}{v:V}{σ':Mem}(G:aA c s.heap args xs)(h:d8 c.Y (.bm b) args=some (v,σ'))(q:Q v σ'):bA J A E c s (call (.builtin b.id) xs) Q:=by induction b with
 |jm=>exact eW h G λ v w x y U M h=>pj (F:=λ z=>[z,y]) h U λ i hi h=>by obtain⟨vs,N,h⟩:=sA h;exact dI h q λ H q=>zY R hi N H M q
 |yY=>exact nn h|jo=>exact eW h G λ v w x y U M h=>pj (F:=λ z=>[z,y]) h U λ i hi h=>kW (F:=λ z=>[_,z]) h M λ l t h=>by obtain⟨vs,N,h⟩:=sA h;exact dI h q λ H q=>Aj R g hi N (ao H).1 (ao H).2 q
 |lR=>exact iw h G λ v x r h=>pj (F:=λ z=>[z]) h r λ i hi h=>by obtain⟨vs,N,h⟩:=sA h;exact dI h q λ H q=>B5 R hi N H q
 |w6=>exact eW h G λ v w x y U M h=>pj (F:=λ z=>[z,y]) h U λ i hi h=>x8 (F:=λ z=>[_,z]) h M λ k t h=>by obtain⟨bJ,ep,N,h⟩:=CZ h;obtain⟨rfl,rfl⟩:=dX (aN h);exact Fj ok R hi N q
 |yZ=>exact eW h G λ v w x y U M h=>pj (F:=λ z=>[z,y]) h U λ i hi h=>x8 (F:=λ z=>[_,z]) h M λ k t h=>by obtain⟨vs,N,h⟩:=NN h;exact dI h q λ H q=>Fi R hi N (ae H) q
 |lS=>exact eW h G λ v w x y U M h=>kW (F:=λ z=>[z,y]) h U λ l t h=>kW (F:=λ z=>[_,z]) h M λ e u h=>by induction e using lC with
   |nil=>exact nn h|cons k e=>induction e using lC with
    |nil=>obtain⟨rfl,rfl⟩:=dX (aN h);exact Cm R q
    |cons=>exact nn h
 |ie=>exact eW h G λ v w x y U M h=>kW (F:=λ z=>[z,y]) h U λ l t h=>kW (F:=λ z=>[_,z]) h M λ e u h=>dI h q λ H q=>Aq R H q|jq=>exact eW h G λ v w x y U M h=>iF (F:=λ z=>[z,y]) h U λ l t D h=>kW (F:=λ z=>[_,z]) h M λ e u h=>dI h q λ H q=>Ar R H q
 |qZ=>exact eW h G λ v w x y U M h=>kW (F:=λ z=>[z,y]) h U λ l t h=>by obtain⟨vs,N,h⟩:=q9 h;obtain⟨m,I,h⟩:=Qy h;exact dI h q λ H q=>Fo R M N I (ao (ao H).1).1 (ao (ao H).1).2 (ao H).2 q
 |q4=>exact eW h G λ v w x y U M h=>iF (F:=λ z=>[z,y]) h U λ l t D h=>by obtain⟨vs,N,h⟩:=q9 h;generalize I:C2 l vs=o at h;induction o with
   |none=>exact nn h|some y=>exact dI h q λ H q=>Co R M N I H q
 |d4=>exact eW h G λ v w x y U M h=>iF (F:=λ z=>[z,y]) h U λ l t L h=>iF (F:=λ z=>[_,z]) h M λ n u C h=>dI h q λ H q=>by have N:=ae (ao H).1;have I:=ae (ao H).2;refine jY rp (T:="bytes") (typeIs_bytes _ _ _) Fu rfl (rV _ _ t u (by simp[bG,N]) (by simp[bG];exact aa I dD)) λ f k=> ?_;exact Cj N L▸⟨c,.bytes _,Step.toks R _,⟨Fq C,f,rfl⟩,q⟩|dg=>exact eW h G λ v w x y U M h=>iF (F:=λ z=>[z,y]) h U λ a t L h=>iF (F:=λ z=>[_,z]) h M λ b u C h=>dI h q λ H q=>by have fin:∀(f:Tok)(k:Nat),gj J c s Q (.bytes (bG (gr a b)) f) {s with toks:=k}:=λ f k=>⟨c,.bytes _,Step.toks R _,⟨Ft C,f,rfl⟩,q⟩;refine wpAny_call (codeAny_call_builtin Fx Fv (fq (Fw _ _) ?_));refine rW (bG a) (bG b) t u (by simp[bG,ae (ao H).1]) J.prog J.w A (wants (λ y s'=>gj J c s Q y s') E) s λ f k=> ?_;exact Ck L▸fin f k
def builtins(ok:bp J):cR J:=by intro A E c s f args l xs v σ' Q r R C e h q;induction f using vC with
 |ty t=>exact(show l= .type t.name from C)▸U1 R r.1 e h q|bi b=>exact(show l= .builtin b.id from C)▸U2 ok R r.1 e h q
 |bm b=>exact(show l= .builtin b.id from C)▸U3 ok R r.1 e h q|_=>exact nn h
def Fy(C:Addr)(rest:aI)(kw:List (Str×Value)):(Code.builtin "type.__call__" ⟨.ref C::rest,kw⟩).weight=1:=by first|rfl|kernel_rfl|decide+kernel
def IF(C:Addr)(rest:aI)(kw:List (Str×Value)):(Code.builtin "type.__call__" ⟨.ref C::rest,kw⟩).cUnits=1:=by first|rfl|kernel_rfl|decide+kernel
def dn.carry{c G:Vw}{h h':Heap}(k:Carry c h G h'):∀{ns:List Str}{vs:aw}{ks:List (Str×Value)},dn c h ns vs ks->dn G h' ns vs ks
 |[],[],[],_=>trivial|_::_,_::_,(_,_)::_,r=>⟨r.1,r.2.1.carry k,dn.carry k r.2.2⟩
 |[],[],_::_,r=>r.elim|[],_::_,_,r=>r.elim
 |_::_,[],_,r=>r.elim|_::_,_::_,[],r=>r.elim
def uy(ok:bp J){C fI:Nat}(o:O)(m:o= .inst C []\/o= .node C [.aC,.aC,.aC])(hm:makesIn J.K C=true)(hi:findIn J.K (.ref C) "__init__"=some (some (.ref fI)))(hf:typeIn J.K (.ref fI)=some (.type "function")){args:aw}{ns:List Str}{kws:aw}{Q:fA}{Y:Mem}(w:aJ J d (.glob fI) (.ref Y.n::args) ns kws (λ v σ'=>v= .none/\Q (.ref Y.n) σ') (Y.alloc o)):aJ J (d+1) (.glob C) args ns kws Q Y:=by
 intro A c s b xs ks e U T R z N G;have z:b= .ref C:=z;subst z;have X:=R.K ok;have a:=makes_of (M:=model J.prog J.w) X hm;refine⟨⟨.machine,?_⟩,?_⟩;obtain⟨⟨oc,od,cd,sl,I,D⟩,D,D,D,D,call,D⟩:=a;refine(Looks.ld (part:=none) I).andThen ?_;dsimp only;exact call.andThen .now;obtain⟨h,g,j,tk,os⟩:=s;refine make_core a (looks_findIn X hi) (λ self=>bind_fn X self hf) (.inl rfl) ?_;have S:Step J c ⟨h,g,j,tk,os⟩ (c.new (h.objs.size+1) [h.objs.size+1,h.objs.size] [] o) ⟨(h.push emptyDict).push (instObj C h.objs.size),g,j,tk,os⟩ cN:=by rcases m with rfl|rfl;exact GC R C tk;exact GD R C tk
 have k:aE (c.new (h.objs.size+1) [h.objs.size+1,h.objs.size] [] o) ((h.push emptyDict).push (instObj C h.objs.size)) (.ref c.Y.n) (.ref (h.objs.size+1)):=
  ⟨bz _,by refine(?_:_=Value.ref (if c.Y.n=c.Y.n then _ else _));rw[ar rfl]⟩
 have u:jK d (A.under (.builtin "type.__call__" ⟨.ref C::xs,ks⟩)):=by obtain⟨L,r2,r3⟩:=e;refine⟨L,?_,?_⟩;refine(?_:A.depth+_+8*d<800);rw[Fy];omega;refine(?_:A.units+_+60*d<9000);rw[IF];omega
 have H:xe (A.under (.builtin "type.__call__" ⟨.ref C::xs,ks⟩)) (c.new (h.objs.size+1) [h.objs.size+1,h.objs.size] [] o):=by obtain⟨l,y,t⟩:=U.step S;refine⟨l,?_,t⟩;refine(?_:A.frames=some l);exact y
 subst T;obtain⟨D,f⟩:=w _ _ _ (.ref fI) (.ref (h.objs.size+1)::xs) ks u H rfl S.rel rfl ⟨k,N.carry S.carry⟩ (dn.carry S.carry G);refine codeAny_mono f λ r s' p=> ?_;obtain⟨x,E,v,rfl,n,i,rfl,q⟩:=p;have i:x= .none:=i;subst i;obtain⟨h1,h2⟩:=aE.carry (v:= .ref c.Y.n) n.carry k;refine⟨rfl,.ref (h.objs.size+1),E,.ref c.Y.n,rfl,S.trans n,⟨h1,h2⟩,q⟩
structure IG(fd:FuncData)(sc:Scope)(body:List cM)(names:List Str):Prop where
 Yr:fd.scope=sc
 co:sc.isCoroutine=false
 gen:sc.isGenerator=false
 bd:fd.body= .stmts body
 gl:fd.globals=mainGlobals
 bu:fd.builtins=builtinsNs
 kf:sc.kind= .function
 nd:(sc.names.map (·.1)).Nodup
 cl:fd.closure.map (·.1)=names
 nn:names.Nodup
 B:∀x,(x,NameKind.free)∈sc.names↔x∈names
def uz{cl:List (Str×Addr)}{j:Nat}{x:Str}(T:(cl.map (·.1)).Nodup)(h:(cl.map (·.1))[j]? =some x):cl.lookup x=(cl.map (·.2))[j]? :=by induction cl generalizing j with
 |nil=>exact nn h|cons p cl z=>obtain⟨y,a⟩:=p;rw[fG,gR]at T;induction j using nC with
  |zero=>rw[show x=y from(aN h).symm,fm,f9];rfl|succ j=>have L:(cl.map (·.1))[j]? =some x:=h;rw[fm,lH.mpr λ e=>T.1 (by exact e▸nr L)];exact z T.2 L
def ya{cl:List (Str×Addr)}{x:Str}{a:Addr}(h:cl.lookup x=some a):x∈cl.map (·.1)/\a∈cl.map (·.2):=⟨bV.mpr ⟨(x,a),lookup_mem h,rfl⟩,bV.mpr ⟨(x,a),lookup_mem h,rfl⟩⟩
def IH(ok:bp J)(pk:cB J pg)(hB:cR J){i kk:Nat}{vs:aw}{sc:Scope}{body:List cM}{names:List Str}(g:∀U,J.u5 kk U->IG U sc body names)(hlen:vs.length=names.length){k:CC}(hk:k.kd=sc.names)(gg:k.G=pg.G){ms:List MS}(hc:gd k ms body=true){args:aw}{ns:List Str}{kws:aw}{Q:fA}{Y:Mem}(U4:Y.f i= .u5 kk vs)(H:aw)(vals:List (Str×V))(Ys:∀(x:Str)(j:Nat)(v:V),k.nm.lookup x=some j->H[j]? =some v->v= .aC\/∃m:Nat,names[m]? =some x/\vs[m]? =some v)(M:∀U,J.u5 kk U->∀(A:Around)(E:dM) c s xs ks,Rel J c s->c.Y=Y->aA c s.heap args xs->dn c s.heap ns kws ks->wpAny J.ay A (bindArgs U ⟨xs,ks⟩) (M5 J c s Y vals) E s)(hp:jQ k (vals.map (·.1))=true)(w:wSs J pg d ms (c7 Q) (iY k H vals) Y):aJ J (d+1) (.ref i) args ns kws Q Y:=by
 intro A c s xf xs ks p sk u9 R rf ra rk;obtain⟨hi,rfl⟩:=rf;have l:=R.obj i hi;rw[u9,U4]at l;obtain⟨gh,cls,U,⟨⟨o,ho,hd,D⟩,⟨xv,rv,hl,Ad⟩,PY⟩,C,As,c',PT,ec,cr⟩:=l;have F:=g U As;have n:=F.Yr;refine⟨⟨.frame,mQ ho hd⟩,?_⟩;refine codeAny_call_function (by refine(?_:A.depth<1000);have:=p.2.1;omega) ho hd (by exact n▸F.co) (by exact n▸F.gen) F.bd cr ?_;refine aW (M U As A.in1 _ c s xs ks R u9 ra rk) (λ bs y h=> ?_) λ D D z=>z;obtain⟨c₁,r,oh,br⟩:=h;refine F.gl.symm▸F.bu.symm▸n.symm▸?_;have Yt:U.closure.length=names.length:=by rw[<-F.cl,a7]
 have yU:∀x a,U.closure.lookup x=some a->(x,NameKind.free)∈sc.names/\J.h₀.objs.size<=a/\¬c₁.T a/\a<y.heap.objs.size:=λ x a h=>by obtain⟨N,G⟩:=ya h;rw[F.cl]at N;rw[PY]at G;have q:=r.rel.oD a (r.x a (C a G));obtain⟨ox,ex⟩:=q.2.1;exact⟨(F.B x).mpr N,q.1,q.2.2,b6 ex⟩
 have ub:∀x,(x,NameKind.free)∈sc.names->(U.closure.lookup x).isSome=true:=λ x h=>by
  have:=(F.B x).mp h;rw[<-F.cl]at this;obtain⟨m,hm⟩:=List.mem_iff_getElem?.mp this;refine(uz (by exact F.cl▸F.nn) hm).symm▸?_;have I:m<U.closure.length:=by have:=(List.getElem?_eq_some_iff.mp hm).1;exact a7 _▸this
  simp[I]
 have q:∀b∈cls,∀l,s.heap.get? b=some l->y.heap.get? b=some l:=λ b M l e=>by have WL:=R.oD b (C b M);refine r.kept b l e WL.2.2 (λ h=>h) (q5 R WL.1) λ hz=> ?_;exact(R.d6 b hz).2.2.2.1 (C b M)
 have p9:∀(x:Str)(j:Nat)(v:V),k.nm.lookup x=some j->H[j]? =some v->v= .aC\/((x,NameKind.free)∈sc.names/\∃a u,U.closure.lookup x=some a/\y.heap.IsCell a (some u)/\aE c₁ y.heap v u):=λ x j v N G=>by
  rcases Ys x j v N G with z|⟨m,hm,hv⟩;exact .inl z;refine .inr ⟨(F.B x).mpr (nr hm),?_⟩;obtain⟨u,hu,ru⟩:=rv.get hv;have Ef:(U.closure.map (·.1))[m]? =some x:=by exact F.cl▸hm
  have lk:=uz (by exact F.cl▸F.nn) Ef;rw[PY]at lk;have I:m<cls.length:=by exact hl▸(List.getElem?_eq_some_iff.mp hu).1
  have ll:cls[m]? =some cls[m]:=gN I;obtain⟨oc,eo,dc⟩:=Ad m cls[m] u ll hu;refine⟨cls[m],u,by exact lk.symm▸ll.symm▸rfl,?_,ru.carry r.carry⟩;exact⟨oc,q _ (List.getElem_mem I) _ eo,dc⟩
 refine enter (B:=H) ok R p sk r oh br gg hk F.kf F.nd ub yU p9 hp λ env cj bw En=> ?_;obtain⟨L,hE,hL,S,T,tp,own,zL,ow⟩:=id En;exact aW (stmts ok pk hB ms k body (c7 Q) _ Y _ _ _ bw _ hc w T tp λ e s' t=>t.none λ D D D h=>h) (λ f mf rS=>Ca R En rS) λ D D z=>z
def kh.zip:∀{ps:List Str}{vs:aw}{xs:aI},aA c h vs xs->kh c h (ps.zip vs) (ps.zip xs)
 |[],_,_,_=>trivial|_::_,[],[],_=>trivial
 |_::_,[],_::_,r=>r.elim|_::_,_::_,[],r=>r.elim
 |p::ps,v::vs,x::xs,r=>⟨rfl,r.1,kh.zip r.2⟩
def II{x:FuncData}{args:aw}{ns:List Str}{kws:aw}{vals:List (Str×V)}(h:∀c s xs ks,Rel J c s->aA c s.heap args xs->dn c s.heap ns kws ks->∃bs,Looks J.ay s.heap (bindArgs x ⟨xs,ks⟩) bs/\kh c s.heap vals bs):∀(A:Around)(E:dM) c s xs ks,Rel J c s->c.Y=Y->aA c s.heap args xs->dn c s.heap ns kws ks->wpAny J.ay A (bindArgs x ⟨xs,ks⟩) (M5 J c s Y vals) E s:=by intro A E c s xs ks R T e o;obtain⟨bs,L,G⟩:=h c s xs ks R e o;exact L.here ⟨c,.refl R,T,G⟩
structure Au(J:Cx)(mg:Str->Option Value)(cc:Addr)(pos:Pos):Prop where
 at_:∀c s,Rel J c s->s.heap.Ns mainGlobals mg/\s.heap.BuiltinsAt mg J.P/\CodeHd s.heap cc J.P
 U6:TriplesOk J.ps.toList
 new:codeAmong pos J.ps.toList=none
 ln:pos.line=J.line
 cl:pos.col=J.col
 ne:mainGlobals≠J.P
def LG{Q:dM}{mg:Str->Option Value}{x:Addr}{pos:Pos}{name:Str}{params:Arguments}{body:List cM}{scope:Scope}{H:List (Str×Addr)}{i:Nat}(a:Au J mg x pos)(R:Rel J c s)(U:closureFor scope env=pure H)(M:env.globals=mainGlobals)(w:env.code= .ref x)(h:∀(G:Addr)(z doc:Value)(h':Heap)(tk:Nat),(∀b o,b≠J.P->s.heap.get? b=some o->h'.get? b=some o)->s.heap.objs.size<=h'.objs.size->h'.CodeRec (.ref G) J.qual->h'.get? J.P=some (tabObj (J.ps++ #[rawInt J.line,rawInt J.col,.ref G]))->(G∈c.x\/(s.heap.objs.size<=G/\G<h'.objs.size))->Q (.ref h'.objs.size) {s with heap:=h'.push (fnMade name J.qual params body scope H doc ((mg "__name__").getD .none) G z),toks:=tk}):wpAny J.ay A (makeFunction name J.qual params (.stmts body) scope env [] [] [] pos i) Q E s:=by
 obtain⟨n1,n2,N⟩:=a.at_ c s R;rcases R.tab with e|⟨G,L,e,cr⟩;refine makeFunction_K U M n1 w N e a.U6 a.new a.ne n2 λ G z doc h' tk k1 k2 k3 p k5=> ?_;rw[a.ln,a.cl]at k5;exact h G z doc h' tk (λ b o k t=>k1 b o k t) (bo (bt k2 k3)) p k5 (.inr ⟨k2,k3⟩);have C:(J.ps++ #[rawInt J.line,rawInt J.col,Value.ref G]).toList=J.ps.toList++[rawInt pos.line,rawInt pos.col,.ref G]:=by rw[a.ln,a.cl];simp
 refine makeFunction_hit (cv:= .ref G) U M n1 w N e (by rw[C];exact TriplesOk_snoc _ _ _ _ a.U6) (by rw[C];exact codeAmong_snoc _ a.U6 a.new) n2 λ z doc h' tk k1 k2=> ?_;have v:h'.CodeRec (.ref G) J.qual:=cr.keeps k1;exact h G z doc h' tk (λ b o D t=>k1 b o t) k2 v (k1 _ _ e) (.inl L)
noncomputable def Vw.seal(c:Vw)(C:List Addr):Vw:={c with x:=C++c.x,y:=c.y.filter λ b=> !decide (b∈C)}
def pn{C:List Addr}{b:Addr}:b∈(c.y.filter λ b=> !decide (b∈C))↔b∈c.y/\b∉C:=by simp
def kX(C:List Addr)(h:Heap):Carry c h (c.seal C) h:=⟨ah _,λ D D=>rfl,λ D D=>rfl,λ D D t=>t,λ b D U=>by
  rcases U with t|q|q
  ·exact .inl t
  ·exact .inr (.inl (pn.mp q).1)
  ·exact .inr (.inr q),λ D D e D D=>e⟩
def Rel.seal(R:Rel J c s)(C:List Addr)(T:∀b∈C,b∈c.y)(he:∀b∈C,∃o,s.heap.get? b=some o):Rel J (c.seal C) s where
 base:=R.base
 tab:=R.tab.carry (λ o e=>e) λ b U=>⟨bK.mpr (.inr U),λ o e=>e⟩
 lT:=R.lT
 size:=R.size
 obj:=λ i hi=>(R.obj i hi).carry (kX C s.heap) (λ b U=>⟨bK.mpr (.inr U),λ o e=>e⟩) λ b U o e=>e
 apart:=R.apart
 high:=R.high
 oD:=λ b U=>by rcases bK.mp U with h|h;exact⟨(R.d5 b (T b h)).1,he b h,(R.d5 b (T b h)).2.2.1⟩;exact R.oD b h
 d5:=λ b U=>by obtain⟨M,N⟩:=pn.mp U;exact⟨(R.d5 b M).1,(R.d5 b M).2.1,(R.d5 b M).2.2.1,λ q=>(bK.mp q).elim N (R.d5 b M).2.2.2⟩
 d6:=λ b U=>⟨(R.d6 b U).1,(R.d6 b U).2.1,(R.d6 b U).2.2.1,λ q=>(bK.mp q).elim (λ h=>(R.d6 b U).2.2.2.2 (T b h)) (R.d6 b U).2.2.2.1,λ q=>(R.d6 b U).2.2.2.2 (pn.mp q).1⟩
 gens:=R.gens
 os:=R.os
def Step.seal{c₀ c:Vw}{d s:Shared}(S:Step J c₀ d c s (λ b=>d.heap.objs.size<=b))(R₀:Rel J c₀ d)(C:List Addr)(T:∀b∈C,b∈c.y)(he:∀b∈C,∃o,s.heap.get? b=some o)(p:∀b∈C,d.heap.objs.size<=b):Step J c₀ d (c.seal C) s cN where
 rel:=S.rel.seal C T he
 carry:=S.carry.trans (kX C s.heap) S.size
 x:=λ b h=>bK.mpr (.inr (S.x b h))
 ta:=λ b h=>(bK.mp h).elim (λ q=> .inr (p b q)) (S.ta b)
 y:=λ b h=>pn.mpr ⟨S.y b h,λ q=>aD (p b q) (R₀.d5 b h).2.1⟩
 z:=S.z
 qi:=S.qi
 kept:=λ b o e nt D np l=>S.kept b o e nt (fB.mpr (b6 e)) np l
 j5:=λ b o e U D=>S.j5 b o e U (fB.mpr (b6 e))
 size:=S.size
def IJ(ok:bp J)(M:cB J pg){g H p T N G I L:Pos}{is ic C Cn gi:Nat}{as:List (Nat×V)}{F:Addr}(u:env.scope.kind= .function)(j:env.globals=mainGlobals)(l:env.builtins=builtinsNs)(R:Rel J c s)(i:jK d A)(b:xe A c)(hL:env.locals∈c.z)(k1:env.kindOf "stream"=some .local)(hi:is<c.Y.n)(z:gc env s.heap "stream" (.ref (c.ρ is)))(e:c.Y.f is= .inst C as)(hC:pg.insts.contains C=true)(hlen:as.length<=100)(V2:gc env s.heap "_law_piece" (.ref F))(r2:aE c s.heap (.ref ic) (.ref F))(kn:env.kindOf "_netrclex"=some .globalImplicit)(U7:pg.G[gi]? =some (("_netrclex":Str),V.glob Cn))(U0:env.cells.lookup ("stream":Str)=none)(w:aJ J d (.glob Cn) [.ref is] [] [] Q (c.Y.set is (.inst C (m7 as 4 (.ref ic))))):wpAny J.ay A (execs [.Assign [.Attribute (.Name "stream" g) "read" H] (.Name "_law_piece" p) T,.Return (some (.Call (.Name "_netrclex" N) [.Name "stream" G] [] I)) L] env) (λ f s'=>GL J c s Q (.ok f) s') E s:=by
 refine gT (wpAny_Assign_stores (wpAny_Name (lU u V2 (by decide+kernel) ?_) (by decide+kernel)) rfl rfl);refine(?_:wpAny _ _ (do let t<-holding [.ref F] (eval (.Name "stream" g) env);standAt H.atName;holding [.ref F,t] (setAttr t (attrName 4) (.ref F));release [.ref F,t] []) _ _ _);refine ag (bB (wpAny_Name (lU u z (by decide+kernel) (ag (cP (ag (bB ((tu (Q:=λ σ'=>σ'=c.Y.set is (.inst C (m7 as 4 (.ref ic)))) R ok hi e (M.inst C hC) dD hlen r2 rfl).go λ D U c₂ k u9=>wpAny_release ?_)))))) (by decide+kernel)));have Yv:gc env U.heap "stream" (.ref (c₂.ρ is)):=by refine(k.carry.ρ is hi).symm▸?_;exact z.keep (λ o m=>k.j5 _ o m hL λ h=>h) λ a o hl m=>nn (U0.symm.trans hl)
 refine gT (wpAny_Return_some (jP (wpAny_Name ?_ (by decide+kernel))));refine(loadName_read u kn).symm▸?_;refine M.glob gi _ _ U7 c₂ U k.rel A E _ (λ y r=> ?_) env j l;refine(show y= .ref Cn from r).symm▸?_;have n:=w A c₂ U (.ref Cn) [.ref (c₂.ρ is)] [] i (b.step k) u9 k.rel rfl ⟨⟨ai hi k.carry.n,rfl⟩,trivial⟩ trivial;refine bM (di rfl rfl (wpAny_items_cons (wpAny_Name (lU u Yv (by decide+kernel) (wpAny_items_nil (ax ⟨n.1,wpAny_call (codeAny_mono n.2 λ r s' hr=> ?_)⟩))) (by decide+kernel)) rfl));obtain⟨x,c',v,rfl,S',rv,q⟩:=hr;exact⟨x,c',v,rfl,k.trans S',rv,q⟩
inductive DA(J:Cx)(env:Env)(name:Str)(kk:Nat)(vs:aw)(c₀:Vw)(fR:Shared)(c:Vw)(s:Shared)(f:Flow)(s':Shared):Prop
 |mk (hf:f= .next) (c':Vw) (F:Addr) (S:Step J c₀ fR c' s' cN) (u9:c'.Y=c.Y.alloc (.u5 kk vs)) (Wv:∀i,i<c.Y.n->c'.ρ i=c.ρ i) (r:aE c' s'.heap (.ref c.Y.n) (.ref F)) (V:gc env s'.heap name (.ref F)) (o:∀y u,y≠name->gc env s.heap y u->gc env s'.heap y u) (hL:env.locals∈c'.z):DA J env name kk vs c₀ fR c s f s'
def LH(R:Rel J c s){a1 a2:Addr}{v1 v2:V}{g d:Value}{kk:Nat}(T:∀b∈[a1,a2],b∈c.y)(m:s.heap.IsCell a1 (some g))(A:s.heap.IsCell a2 (some d))(v:aE c s.heap v1 g)(k:aE c s.heap v2 d){G:Addr}{h':Heap}{tk:Nat}{fobj:Obj}{U:FuncData}(k1:∀b o,b≠J.P->s.heap.get? b=some o->h'.get? b=some o)(k2:s.heap.objs.size<=h'.objs.size)(k3:h'.CodeRec (.ref G) J.qual)(p:h'.get? J.P=some (tabObj (J.ps++ #[rawInt J.line,rawInt J.col,.ref G])))(k5:G∈c.x\/(s.heap.objs.size<=G/\G<h'.objs.size))(H:fobj.isFreed=false)(hd:fobj.data= .func U)(n:fobj.cls= .type "function")(w:U.code= .ref G)(z:U.qualname=J.qual)(E:U.closure.map (·.2)=[a1,a2])(f:J.u5 kk U):∃x,Step J (c.seal [a1,a2]) s ((c.seal [a1,a2]).new h'.objs.size [h'.objs.size] x (.u5 kk [v1,v2])) {s with heap:=h'.push fobj,toks:=tk} cN:=by
 have l:∀b∈[a1,a2],∃o,s.heap.get? b=some o:=uj (let⟨o,e,_⟩:=m;⟨o,e⟩) (let⟨o,e,_⟩:=A;⟨o,e⟩);have C:∀b o,b≠J.P->s.heap.get? b=some o->(h'.push fobj).get? b=some o:=λ b o r e=>bN _ (k1 b o r e);have N:(h'.push fobj).objs.size=h'.objs.size+1:=b9 ..;have cellK:∀{a u},a∈c.y->s.heap.IsCell a (some u)->(h'.push fobj).IsCell a (some u):=λ T ⟨o,e,dd⟩=>⟨o,C _ _ (q5 R (R.d5 _ T).1) e,dd⟩;have mk:∀x:List Addr,(∀b∈x,s.heap.objs.size<=b/\b∉[h'.objs.size]/\∃Q,(h'.push fobj).get? b=some Q)->G∈x++(c.seal [a1,a2]).x->
   Step J (c.seal [a1,a2]) s ((c.seal [a1,a2]).new h'.objs.size [h'.objs.size] x (.u5 kk [v1,v2])) {s with heap:=h'.push fobj,toks:=tk} cN:=λ x hx y=>by
  refine(R.seal [a1,a2] T l).Qj (s':={s with heap:=h'.push fobj,toks:=tk}) h'.objs.size [h'.objs.size] x (.u5 kk [v1,v2]) C (.inr ⟨G,y,bN _ p,k3.push _⟩) (by refine(?_:_<=(h'.push fobj).objs.size);exact N▸jk k2) rfl rfl (xT ⟨k2,by refine(?_:_<(h'.push fobj).objs.size);exact N▸bz _⟩) hx λ I=>⟨rfl,[a1,a2],U,⟨⟨fobj,bS _ H,hd,n⟩,⟨[g,d],⟨(v.carry (kX _ _)).carry I,(k.carry (kX _ _)).carry I,trivial⟩,rfl,λ j b x M L=> ?_⟩,E⟩,λ b M=>sW _ (fH _ M),f,G,y,w,by refine w.symm▸z.symm▸?_;exact k3.push _⟩;induction j using nC with
  |zero=>refine(aN M)▸(aN L)▸?_;exact cellK (T _ (.head _)) m|succ j=>induction j using nC with
   |zero=>refine(aN M)▸(aN L)▸?_;exact cellK (T _ (.tail _ (.head _))) A|succ j=>exact nn M
 rcases k5 with h|⟨h1,h2⟩;exact⟨[],mk [] mN (sW _ (sW _ h))⟩;obtain⟨cq,oc,vs,t,ec,i,D⟩:=id k3;rw[<-sV ec]at i;exact⟨[G],mk [G] (xT ⟨h1,λ q=>az h2 (bX.mp q),oc,bN _ i⟩) (.head _)⟩
def lex_def{c c₀:Vw}{s r:Shared}{mg:Str->Option Value}{N:Addr}{pos:Pos}{name:Str}{params:Arguments}{body:List cM}{scope:Scope}{n1 n2:Str}{a1 a2:Addr}{v1 v2:V}{m Q:Value}{kk:Nat}(f:Au J mg N pos)(T:At J pg d k B Y A c s env)(H:Step J c₀ r c s (λ b=>r.heap.objs.size<=b))(R₀:Rel J c₀ r)(v:env.code= .ref N)(I:qualnameIn env name name=J.qual)(L:params.defaults=[])(U9:params.kw_defaults=[])(OQ:annTrees params none env=[])(yU:closureFor scope env=pure [(n1,a1),(n2,a2)])(j:∀b∈[a1,a2],b∈c.y)(hn:∀b∈[a1,a2],r.heap.objs.size<=b)(w:s.heap.IsCell a1 (some m))(l:s.heap.IsCell a2 (some Q))(r1:aE c s.heap v1 m)(r2:aE c s.heap v2 Q)(t:env.locals∈c.z)(fL:r.heap.objs.size<=env.locals)(n:env.kindOf name=some .local)(As:∀G z doc,J.u5 kk (fnX name J.qual params body scope [(n1,a1),(n2,a2)] .none .none doc ((mg "__name__").getD .none) none (.ref G) z)):wpAny J.ay A (exec (.FunctionDef name params body [] none [] scope none name pos) env) (DA J env name kk [v1,v2] c₀ r c s) E s:=by
 apply nestDef_K L U9 OQ;refine I.symm▸?_;refine LG f T.rl yU T.en.glob v λ G z doc h' tk k1 k2 k3 k4 k5=> ?_;have R:=T.rl;obtain⟨x,C⟩:=LH (tk:=tk) (fobj:=fnMade name J.qual params body scope [(n1,a1),(n2,a2)] doc ((mg "__name__").getD .none) G z) R j w l r1 r2 k1 k2 k3 k4 k5 rfl rfl rfl rfl rfl rfl (As G z doc);have S1:=H.seal R₀ [a1,a2] j (uj (let⟨o,e,_⟩:=w;⟨o,e⟩) (let⟨o,e,_⟩:=l;⟨o,e⟩)) hn;have g:∀b o,J.h₀.objs.size<=b->s.heap.get? b=some o->(h'.push (fnMade name J.qual params body scope [(n1,a1),(n2,a2)] doc ((mg "__name__").getD .none) G z)).get? b=some o:=λ b o nb e=>bN _ (k1 b o (q5 R nb) e);have dst:∀b,Eh env name b->b=env.locals:=λ b U=>U.elim (λ h=>h.2) λ h=>absurd (n.symm.trans h.1) nofun;refine wg T.en.kind (T.en.H.keep λ b o U e=>⟨o.slots,g b o (R.nO (T.en.own b U)).1 e⟩) (.inl n) λ A5 Va Yx hx ho Hh hsz=> ?_;have M:=C.rel.d6 _ t;have p:=C.rel.Bf (Eh env name) (s':={s with heap:=A5,toks:=Va}) (λ b o e nw=>(Hh b nw).trans e) (λ b U=>by exact dst b U▸⟨M.1,M.2.2.1,M.2.2.2.1,.inr t⟩) (λ b D U=>by
   refine(dst b U).symm▸?_
   obtain⟨o,es,ep,e,hd,D⟩:=Yx.loc
   exact⟨o,e,λ vs q=>by rw[hd]at q;exact nomatch q⟩) (bO hsz.symm) rfl rfl
 exact⟨rfl,_,h'.objs.size,Step.freshen R₀ (W:=cN) (W':=Eh env name) ((S1.trans C).bC.trans p) λ b U=> .inr (by exact dst b U▸fL),rfl,λ i hi=>au (az hi),(xS (s:=s) (s':=s)).carry p.carry,hx,λ y u jL V=>ho y u jL (V.keep (λ o e=>⟨o.slots,g _ o (R.nO (T.en.own _ (.inl rfl))).1 e⟩) λ a o hl e=>⟨o.slots,g _ o (T.en.seen y a hl).1 e⟩),t⟩
def IK{x:Str}{j:Nat}{v:V}(T:At J pg d k B Y A c s env)(M:k.nm.lookup x=some j)(N:isVar (env.kindOf x)=true)(l:B[j]? =some v)(C:v≠.aC):∃u,gc env s.heap x u/\aE c s.heap v u:=(T.fv x j v M N l).resolve_left C
inductive OR(J:Cx)(pg:Pg)(d:Nat)(j1 j2 js kk Cn:Nat)(Q:fA)(B:aw)(σ':Mem):Prop
 |mk (v1 v2:V) (is C:Nat) (as:List (Nat×V)) (g1:B[j1]? =some v1) (g2:v1≠.aC) (g3:B[j2]? =some v2) (g4:v2≠.aC) (g5:B[js]? =some (.ref is)) (g6:σ'.f is= .inst C as) (g7:pg.insts.contains C=true) (g8:as.length<=100) (w:aJ J d (.glob Cn) [.ref is] [] [] Q ((σ'.alloc (.u5 kk [v1,v2])).set is (.inst C (m7 as 4 (.ref σ'.n))))):OR J pg d j1 j2 js kk Cn Q B σ'
def Av{Q s:Shared}{x:Str}{j:Nat}{v:V}(T:At J pg d k B Y A c s env)(L:env.kindOf x=some .cell)(own:∀b,Own env b->Q.heap.objs.size<=b)(H:∀b,Own env b->b=env.locals\/b∈c.y)(M:k.nm.lookup x=some j)(l:B[j]? =some v)(C:v≠.aC):∃a u,env.cells.lookup x=some a/\a∈c.y/\Q.heap.objs.size<=a/\s.heap.IsCell a (some u)/\aE c s.heap v u:=by obtain⟨a,D,I,D,n⟩:=T.en.H.cell x L;have m:Own env a:= .inr ⟨x,L,I⟩;obtain⟨u,V,r⟩:=IK T M (by refine L.symm▸?_;rfl) l C;refine⟨a,u,I,(H a m).resolve_left n,own a m,?_,r⟩;rcases V with⟨q,D⟩|⟨D,o,p,w⟩;rw[L]at q;exact nomatch q;rw[I]at p;exact aN p▸w
def IL(ok:bp J)(u:cB J pg)(hB:cR J){fa:Nat}{U:FuncData}{y m:cM}{params:Arguments}{M7:List cM}{scope:Scope}{pos p1 p2 p3 p4 p5 p6 p7 p8:Pos}(F:FnAt J fa U [y,m,.FunctionDef "_law_piece" params M7 [] none [] scope none "_law_piece" pos,.Assign [.Attribute (.Name "stream" p1) "read" p2] (.Name "_law_piece" p3) p4,.Return (some (.Call (.Name "_netrclex" p5) [.Name "stream" p6] [] p7)) p8]){mg:Str->Option Value}{cc:Addr}(g:Au J mg cc pos)(wN:U.code= .ref cc)(U8:params.defaults=[])(U9:params.kw_defaults=[]){n1 n2:Str}{kk j1 j2 js Cn gi:Nat}(hq:∀L,qualnameIn (fEnv U.scope [] L (U.qualname++".<locals>.") fa U.code) "_law_piece" "_law_piece"=J.qual)(OQ:∀L,annTrees params none (fEnv U.scope [] L (U.qualname++".<locals>.") fa U.code)=[])(Vb:∀L a1 a2,(fEnv U.scope [] L (U.qualname++".<locals>.") fa U.code).cells.lookup n1=some a1->(fEnv U.scope [] L (U.qualname++".<locals>.") fa U.code).cells.lookup n2=some a2->closureFor scope (fEnv U.scope [] L (U.qualname++".<locals>.") fa U.code)=pure [(n1,a1),(n2,a2)])(k1:U.scope.names.lookup n1=some .cell)(k2:U.scope.names.lookup n2=some .cell)(kp:U.scope.names.lookup ("_law_piece":Str)=some .local)(p:U.scope.names.lookup ("stream":Str)=some .local)(kn:U.scope.names.lookup ("_netrclex":Str)=some .globalImplicit)(As:∀a1 a2 j l doc,J.u5 kk (fnX "_law_piece" J.qual params M7 scope [(n1,a1),(n2,a2)] .none .none doc ((mg "__name__").getD .none) none (.ref j) l)){k:CC}(hk:k.kd=U.scope.names)(gg:k.G=pg.G)(m1:k.nm.lookup n1=some j1)(m2:k.nm.lookup n2=some j2)(ms:k.nm.lookup ("stream":Str)=some js)(U7:pg.G[gi]? =some (("_netrclex":Str),V.glob Cn)){t1 t2:MS}(Yy:KN k t1 y=true)(Yz:KN k t2 m=true){args:aw}{Q:fA}{Y:Mem}(n:Nat)(vals:List (Str×V))(r:∀(A:Around)(E:dM) c s xs ks,Rel J c s->c.Y=Y->aA c s.heap args xs->dn c s.heap [] [] ks->wpAny J.ay A (bindArgs U ⟨xs,ks⟩) (M5 J c s Y vals) E s)(hp:jQ k (vals.map (·.1))=true)(w:wS J pg d t1 (λ I B Y=>I= .next/\wS J pg d t2 (λ I B σ'=>I= .next/\OR J pg d j1 j2 js kk Cn Q B σ') B Y) (iY k (List.replicate n .aC) vals) Y):aJ J (d+1) (.glob fa) args [] [] Q Y:=by
 intro A c s xf xs ks rm sk u9 R rf ra rk;refine(show xf= .ref fa from rf).symm▸?_;obtain⟨o,Ru,hd⟩:=F.lk;have ho:=R.K ok fa o Ru;refine⟨⟨.frame,mQ ho hd⟩,codeAny_call_function (bt (av ..) (fz rm.2.1 dD)) ho hd F.co F.gen F.bd (F.cr c s R) (aW (r A.in1 _ c s xs ks R u9 ra rk) (λ bs aq h=> ?_) λ D D z=>z)⟩;obtain⟨c₁,dh,oh,br⟩:=h;refine F.gl.symm▸F.bu.symm▸F.cl.symm▸?_;refine enter (cl:=[]) (B:=List.replicate n .aC) ok R rm sk dh oh br gg hk F.kf F.nd (λ x h=>absurd h (F.nf x)) (λ x a h=>nn h) (λ x i v D h=> .inl (Cb h)) hp λ env cj bw En=> ?_;obtain⟨L,M,hL,S,T,tp,own,zL,ow⟩:=En;have N:∀x,env.kindOf x=U.scope.names.lookup x:=λ x=>by refine M.symm▸?_;rfl
 have H:env.locals=L:=by refine M.symm▸?_;rfl
 have ek:env.scope.kind= .function:=by exact M▸F.kf
 have zD:=Rr ok u (all ok u hB) (d:=d);refine gT (aW (zD t1 k y _ _ Y _ _ _ bw env Yy w T tp λ e s' t=>t.none λ D D D h=>(nomatch h.1)) (λ f lD m9=> ?_) λ D D z=>z);obtain⟨vq,WO,I,dB,qB,f4,e4,bQ⟩:=m9;rw[e4]at f4;refine(show f= .next from f4).symm▸?_;refine gT (aW (zD t2 k m _ _ vq.Y _ _ _ lD env Yz bQ qB tp λ e s' t=>t.none λ D D D h=>(nomatch h.1)) (λ f mf rS=> ?_) λ D D z=>z);obtain⟨ka,Ib,I,fb,G,f5,e5,cY⟩:=rS;obtain⟨v1,v2,is,C,as,g1,g2,g3,g4,g5,g6,g7,g8,cY⟩:=cY;rw[e5]at f5;refine(show f= .next from f5).symm▸?_;have yb:=dB.trans fb;have OP:=S.trans (yb.mono own);have M8:∀b,Own env b->b=env.locals\/b∈ka.y:=λ b r=>(ow b r).imp (λ q=>q.trans H.symm) λ q=>yb.y b q;obtain⟨a1,u1,l1,y1,z1,i1,r1⟩:=Av G ((N n1).trans k1) own M8 m1 g1 g2;obtain⟨a2,u2,l2,y2,z2,i2,r2⟩:=Av G ((N n2).trans k2) own M8 m2 g3 g4;obtain⟨us,Vs,hi,rfl⟩:=IK G ms (by rw[N,p];rfl) g5 (by exact vn);have S9:env.locals∈ka.z:=by exact H▸yb.z _ zL
 refine gT (aW (lex_def (n1:=n1) (n2:=n2) (v1:=v1) (v2:=v2) (kk:=kk) g G OP R (by exact M▸wN) (by exact M▸hq _) U8 U9 (by exact M▸OQ _) (by rw[M]at l1 l2⊢;exact Vb _ a1 a2 l1 l2) (uj y1 y2) (uj z1 z2) i1 i2 r1 r2 S9 (by exact H▸hL) ((N _).trans kp) (λ j l doc=>As a1 a2 j l doc)) (λ f Lo HW=> ?_) λ D D z=>z);obtain⟨f6,OB,Fa,ur,Cp,OS,rF,VF,Vo,WQ⟩:=HW;refine f6.symm▸?_;refine aW (IJ ok u (d:=d) (is:=is) (ic:=ka.Y.n) (C:=C) (as:=as) (Q:=Q) ek G.en.glob G.en.Ny ur.rel T.rm (Ia (sk.step ur) ek (by refine M.symm▸?_;rfl) (H▸WQ)).1 WQ ((N _).trans p) (by exact Cp▸fF hi) (by exact OS is hi▸Vo _ _ dD Vs) (by exact Cp▸(au (az hi)).trans g6) g7 g8 VF rF ((N _).trans kn) U7 (by
   exact M▸xJ λ q=>nomatch(ba F.nd q).symm.trans p) (by exact Cp▸cY)) (λ f UL Vd=> ?_) λ D D z=>z
 obtain⟨x,OD,v,e7,Lu,rv,q⟩:=Vd;exact Except.ok.inj e7▸⟨x,OD,v,rfl,ur.trans Lu,rv,q⟩
noncomputable def Tf(x:Value)(f:String->Bool):Bool:=match x with
 | .type n=>f n|_=>false
def OT{x:Value}{f:String->Bool}(h:Tf x f=true):∃n,x= .type n/\f n=true:=by induction x<;>first|exact nf h|exact⟨_,rfl,h⟩
noncomputable def LJ(x:Value)(f:Addr->Bool):Bool:=match x with
 | .ref n=>f n|_=>false
def IM{x:Value}{f:Addr->Bool}(h:LJ x f=true):∃n,x= .ref n/\f n=true:=by induction x<;>first|exact nf h|exact⟨_,rfl,h⟩
noncomputable def OU(v:V)(x:Value):Bool:=match v with
 | .none=>match x with
  | .none=>true|_=>false
 | .int i=>match x with
  | .int j _=>i==j|_=>false
 | .str s=>match x with
  | .str t _=>s==t.cps.toList|_=>false
 | .bytes b=>match x with
  | .bytes t _=>b==t.toList.map UInt8.toNat|_=>false
 | .glob a=>LJ x λ b=>a==b| .bi b=>match x with
  | .builtin s=>b.id==s|_=>false
 | .ty t=>Tf x λ n=>t.name==n|_=>false
noncomputable def IP(vs:aw):aI->Bool:=match vs with
 |[]=>l0|v::vs=>λ xs=>match xs with
  |[]=>false|x::xs=>OU v x&&IP vs xs
noncomputable def M9(d:Data)(f:Array Value->Bool):Bool:=match d with
 | .seq g _=>f g|_=>false
def OV{d:Data}{f:Array Value->Bool}(h:M9 d f=true):∃g n,d= .seq g n/\f g=true:=by induction d<;>first|exact nf h|exact⟨_,_,rfl,h⟩
noncomputable def OW(o:Obj)(vs:aw):Bool:=Tf o.cls (·=="tuple")&&o.dict.isNone&&o.slots.isEmpty&&M9 o.data λ f=>IP vs f.toList
noncomputable def RJ(K:Frag)(v:V)(x:Value):Bool:=match v with
 | .tuple vs=>LJ x λ a=>(K.lookup a).any λ o=>OW o vs|_=>false
noncomputable def LK(K:Frag)(v:V)(x:Value):Bool:=OU v x||RJ K v x
noncomputable def IQ(K:Frag)(x:Str)(v:V):Bool:=match nsIn K mainGlobals x with
 |some o=>match o with
  |some y=>LK K v y|none=> !(x==("__name__":Str))&&(bootBuiltins x).any (LK K v)
 |none=>false
def DB{v:V}{x:Value}(e:OU v x=true):aE c h v x:=by induction v using vC with
 |none=>induction x<;>first|exact nf e|rfl
 |int i=>induction x<;>first|exact nf e|exact⟨_,by rw[show i=_ from bc e]⟩
 |str i=>induction x<;>first|exact nf e|exact⟨_,by rw[show i=_ from bc e];rfl⟩
 |bytes b=>induction x with
  |bytes t tk=>refine(show b=_ from bc e).symm▸?_;refine⟨λ y T=> ?_,tk,?_⟩;obtain⟨z,D,rfl⟩:=bV.mp T;exact z.toNat_lt;delta bG;rw[fo,show UInt8.ofNat∘UInt8.toNat=id by funext z;simp,List.map_id]
  |_=>exact nf e
 |glob a=>obtain⟨b,e,h⟩:=IM e;exact bc h▸e
 |bi b=>induction x<;>first|exact nf e|exact aF Value.builtin (bc e).symm
 |ty t=>obtain⟨n,e,h⟩:=OT e;exact e.trans (aF Value.type (bc h).symm)
 |_=>exact nf e
def IS{vs:aw}{xs:aI}(e:IP vs xs=true):aA c h vs xs:=by induction vs generalizing xs with
 |nil=>refine(lq e).symm▸?_;trivial|cons v vs z=>induction xs using lC with
  |nil=>exact nf e|cons x xs=>exact⟨DB (ao e).1,z (ao e).2⟩
def RK{a:Addr}{o:Obj}(ok:bp J)(R:Rel J c s)(e:J.K.lookup a=some o):¬c.N a:=λ n=>by have lt:=b6 (ok.Qv a o e).1;rcases n with t|t|t;exact aD (R.high a t).1 lt;exact aD (R.d5 a t).1 lt;exact aD (R.d6 a t).1 lt
def yc(ok:bp J)(R:Rel J c s){v:V}{x:Value}(e:LK J.K v x=true):aE c s.heap v x:=by rcases SO e with e|e;exact DB e;induction v using vC with
 |tuple vs=>obtain⟨a,rfl,e⟩:=IM e;obtain⟨o,m,e⟩:=w5 e;have g:=ao e;have N:=ao g.1;have d:=ao N.1;obtain⟨E,od,C,os⟩:=o;obtain⟨Q,rfl,k⟩:=OT d.1;obtain⟨f,n,rfl,h⟩:=OV g.2;have b:=R.K ok _ _ m;rw[bc k,show od=none from qY.mp d.2,show os= #[] from Array.isEmpty_iff.mp N.2]at b;exact⟨a,f.toList,rfl,⟨n,b⟩,RK ok R m,IS h⟩
 |_=>exact nf e
def LL(ok:bp J){mg mb:Str->Option Value}(G:J.h₀.Ns mainGlobals mg)(B:J.h₀.Ns builtinsNs mb)(U:∀x:Str,x≠"__name__"->mb x=bootBuiltins x)(np:mainGlobals≠J.P)(b:builtinsNs≠J.P)(w:(pg.G.all λ p=>IQ J.K p.1 p.2)=true):∀(k:Nat) x v,pg.G[k]? =some (x,v)->∀c s,Rel J c s->∀(A:Around)(E:dM)(Q:dM),(∀y,aE c s.heap v y->Q y s)->∀env:Env,env.globals=mainGlobals->env.builtins=builtinsNs->wpAny J.ay A (loadGlobal env x) Q E s:=by
 intro k x v u c s R A E Q q env i j;have h:=fE.mp w (x,v) (nr u);have t:s.heap.Ns env.globals mg:=by obtain⟨o,es,ep,m,r⟩:=G;exact i▸⟨o,es,ep,R.base _ _ m np,r⟩
 have M:s.heap.Ns env.builtins mb:=by obtain⟨o,es,ep,m,r⟩:=B;exact j▸⟨o,es,ep,R.base _ _ m b,r⟩
 have KI:J.K.In J.h₀:=λ a o e=>(ok.Qv a o e).1;have h:IQ J.K x v=true:=h;unfold IQ at h;cases T:nsIn J.K mainGlobals x with
 |none=>rw[T]at h;exact nf h|some o=>rw[T]at h;induction o with
  |some y=>exact PySem.Calls.loadGlobal_global t (mg_of KI G T) (q y (yc ok R h))|none=>have h:=ao h;obtain⟨y,N,I⟩:=w5 h.2;exact PySem.Calls.loadGlobal_builtin t (mg_none_of KI G T) M ((U x (lH.mp (jJ h.1))).trans N) (q y (yc ok R I))
noncomputable def DC(K:Frag)(x:Nat×Nat×Nat):Bool:=findIn K (.ref x.1) (bf x.2.1)==some (some (.ref x.2.2))&&typeIn K (.ref x.2.2)==some (.type "function")&&(List.range 9).all (λ k=> !(attrName k==bf x.2.1))&&fnIn K x.2.2&&specialIn K (.ref x.2.2) "__get__"==some (some (.builtin "function.__get__"))&&takesIn K (.ref x.2.2)==some false&& !copiedNames.contains (bf x.2.1)
noncomputable def Nb(L:Array (Option Value)):Bool:=decide (L.toList.length=6)&&(L.toList[4]? ==some (some (.builtin "ValueError.__new__")))
noncomputable def Nc(d:Data)(f:ClassData->Bool):Bool:=match d with
 | .cls k=>f k|_=>false
def OX{d:Data}{f:ClassData->Bool}(h:Nc d f=true):∃k,d= .cls k/\f k=true:=by induction d<;>first|exact nf h|exact⟨_,rfl,h⟩
def kj{α:Type}{l:List α}{n:Nat}(h:l.length=n+1):∃a t,l=a::t/\t.length=n:=by induction l with
 |nil=>exact Nat.noConfusion h|cons a t=>exact⟨a,t,rfl,lI h⟩
def OY{L:Array (Option Value)}(h:Nb L=true):∃k0 k1 k2 k3 k5,L= #[k0,k1,k2,k3,some (.builtin "ValueError.__new__"),k5]:=by obtain⟨l⟩:=L;obtain⟨d,g⟩:=ao h;obtain⟨k0,l1,rfl,a⟩:=kj (l:=l) (ae d);obtain⟨k1,l2,rfl,r⟩:=kj a;obtain⟨k2,l3,rfl,N⟩:=kj r;obtain⟨k3,z,rfl,m⟩:=kj N;obtain⟨p,y,rfl,b⟩:=kj m;obtain⟨k5,H,rfl,n⟩:=kj b;exact⟨k0,k1,k2,k3,k5,aF Array.mk ((aF (λ x=>[k0,k1,k2,k3,x,k5]++H) (aN (bc g))).trans (aF _ (List.eq_nil_of_length_eq_zero n)))⟩
noncomputable def Cq(K:Frag)(C:Addr):Bool:=(K.lookup C).any λ o=>Tf o.cls (·=="type")&&Nb o.slots&&Nc o.data λ k=>k.mro== .ref C::C8&& !k.hasDel&&nsOkIn K k.ns&&nsIn K k.ns "__init__"==some none
def IT{K:Frag}{C:Addr}(h:Cq K C=true):G4 K C:=by obtain⟨o,e,h⟩:=w5 h;have N:=ao h;have M:=ao N.1;obtain⟨E,dd,od,L⟩:=o;obtain⟨n,rfl,p⟩:=OT M.1;obtain⟨k0,k1,k2,k3,k5,H⟩:=OY M.2;obtain⟨k,rfl,f⟩:=OX N.2;have U:=ao f;have z:=ao U.1;have j:=ao z.1;obtain⟨nm,bs,mro,ns,q,hd,sn,sub,ab,col,del⟩:=k;have hm:mro= .ref C::C8:=bc j.1;have t:del=false:=jJ j.2;have H:L=_:=H;rw[hm,t,H,bc p]at e;exact⟨nm,q,ns,bs,hd,sn,sub,ab,col,dd,k0,k1,k2,k3,k5,e,z.2,bc U.2⟩
def LM(ok:bp J){mg mb:Str->Option Value}(G:J.h₀.Ns mainGlobals mg)(B:J.h₀.Ns builtinsNs mb)(M:∀x:Str,x≠"__name__"->mb x=bootBuiltins x)(np:mainGlobals≠J.P)(b:builtinsNs≠J.P)(w:(pg.G.all λ p=>IQ J.K p.1 p.2)=true)(y:pg.insts.all (instChk J.K)=true)(n:sy J.K pg.tB=true)(E:pg.meths.all (DC J.K)=true)(s:pg.Kr.all (Cq J.K)=true):cB J pg where
 exc:=λ C h=>IT (fE.mp s C (by simpa using h))
 glob:=LL ok G B M np b w
 inst:=λ C h=>instOK_of (fE.mp y C (by simpa using h))
 node:=Ex n
 a9:=λ C m fa h D=>by obtain⟨x,L,rfl⟩:=dR.mp h;have hp:=ao (List.find?_some (p:=λ x:Nat×Nat×Nat=>x.1==C&&x.2.1==m) L);have c:=ao (fE.mp E x (List.mem_of_find?_eq_some L));have t:=ao c.1;have U:=ao t.1;have z:=ao U.1;have j:=ao z.1;have N:=ao j.1;refine(bc hp.1)▸(bc hp.2)▸?_;exact⟨bc N.1,bc N.2,λ k u=>lH.mp (jJ (fE.mp j.2 k (dY.mpr u))),z.2,bc U.2,bc t.2,jJ c.2⟩
noncomputable def WR(d:Data):Option FuncData:=match d with
 | .func x=>some x|_=>none
def Vf{d:Data}{x:FuncData}(h:WR d=some x):d= .func x:=by induction d<;>first|exact nn h|exact aF Data.func (aN h)
noncomputable def DD(d:Data):Option (Array Value):=match d with
 | .fields vs=>some vs|_=>none
def IU{d:Data}{x:Array Value}(h:DD d=some x):d= .fields x:=by induction d<;>first|exact nn h|exact aF Data.fields (aN h)
noncomputable def RL(K:Frag)(fa:Addr):Option FuncData:=(K.lookup fa).bind λ o=>WR o.data
noncomputable def fdOf(K:Frag)(fa:Addr):FuncData:=(RL K fa).getD default
noncomputable def sJ(x:FuncData):Option (List cM):=match x.body with
 | .stmts b=>some b|_=>none
noncomputable def bodyOf(x:FuncData):List cM:=(sJ x).getD []
def IV{x:FuncData}(h:(sJ x).isSome=true):x.body= .stmts (bodyOf x):=by unfold bodyOf sJ at*;generalize x.body=b at*;induction b<;>first|rfl|exact nf h
noncomputable def isStr(x:Value)(q:Str):Bool:=match x with
 | .str u _=>u==q|_=>false
def OZ{x:Value}{q:Str}(h:isStr x q=true):∃t,x= .str q t:=by induction x<;>first|exact nf h|exact⟨_,by rw[bc h]⟩
noncomputable def Fz(K:Frag)(x:Value)(q:Str):Bool:=LJ x λ c=>((K.lookup c).bind λ o=>DD o.data).any λ vs=>vs[1]?.any (isStr · q)
noncomputable def Nd(K:Frag)(fa:Addr)(x:FuncData):Bool:=(RL K fa).isSome&& !x.scope.isCoroutine&& !x.scope.isGenerator&&(sJ x).isSome&&x.globals==mainGlobals&&x.builtins==builtinsNs&&l0 x.closure&&decide (x.scope.kind= .function)&&decide ((x.scope.names.map (·.1)).Nodup)&&x.scope.names.all (λ p=> !decide (p.2= .free))&&Fz K x.code x.qualname
def LN(ok:bp J){fa:Addr}(h:Nd J.K fa (fdOf J.K fa)=true):FnAt J fa (fdOf J.K fa) (bodyOf (fdOf J.K fa)):=by have j:=ao h;have A:=ao j.1;have l:=ao A.1;have U:=ao l.1;have r:=ao U.1;have M:=ao r.1;have C:=ao M.1;have Q:=ao C.1;have G:=ao Q.1;have I:=ao G.1;refine⟨?_,jJ I.2,jJ G.2,IV Q.2,bc C.2,bc M.2,lq r.2,ae U.2,ae l.2,λ x L=>of_decide_eq_false (jJ (fE.mp A.2 _ L)) rfl,λ c s R=> ?_⟩;obtain⟨b,e⟩:=qd.mp I.1;obtain⟨o,a,d⟩:=vV.mp e;exact⟨o,a,by refine(Vf d).symm▸?_;delta fdOf;rw[e];rfl⟩;obtain⟨u,w,e⟩:=IM j.2;obtain⟨vs,e,N⟩:=w5 e;obtain⟨o,a,d⟩:=vV.mp e;obtain⟨v,n,N⟩:=w5 N;obtain⟨t,N⟩:=OZ N;exact⟨u,o,vs,t,w,R.K ok _ _ a,IU d,by exact n.symm▸N.symm▸rfl⟩
def LP{ns:List Str}{kws:aw}{ks:List (Str×Value)}(r:dn c h ns kws ks):∃L,ks=ns.zip L/\L.length=kws.length/\aA c h kws L:=by induction ns generalizing kws ks with
 |nil=>induction kws using lC with
  |nil=>induction ks using lC with
   |nil=>exact⟨[],rfl,rfl,trivial⟩|cons=>exact r.elim
  |cons=>induction ks using lC<;>exact r.elim
 |cons n ns z=>induction kws using lC with
  |nil=>induction ks using lC<;>exact r.elim
  |cons v vs=>induction ks using lC with
   |nil=>exact r.elim|cons p d=>obtain⟨m,x⟩:=p;obtain⟨L,e,I,i⟩:=z r.2.2;exact⟨x::L,by refine e.symm▸(show m=n from r.1.symm).symm▸?_;rfl,aF (·+1) I,r.2.1,i⟩
def sL(ok:bp J){b:FuncData}{args:aw}{ns:List Str}{kws:aw}{vals:List (Str×V)}(bs:aI->aI->List (Str×Value))(hp:∀S(xs ks:aI),xs.length=args.length->ks.length=kws.length->peek J.K S (bindArgs b ⟨xs,ns.zip ks⟩)=some (bs xs ks))(n:∀(c:Vw)(h:Heap)(xs ks:aI),aA c h args xs->aA c h kws ks->(∀v x,LK J.K v x=true->aE c h v x)->kh c h vals (bs xs ks)):∀(A:Around)(E:dM) c s xs ks,Rel J c s->c.Y=Y->aA c s.heap args xs->dn c s.heap ns kws ks->wpAny J.ay A (bindArgs b ⟨xs,ks⟩) (M5 J c s Y vals) E s:=II λ c s xs ks R U o=>by obtain⟨L,rfl,I,i⟩:=LP o;exact⟨bs xs L,Looks.of_peek (M:=model J.prog J.w) (R.K ok) (hp _ xs L U.length.symm I),n c s.heap xs L U i λ v x e=>yc ok R e⟩
end
section
variable{J:Cx}{A:Around}{E:dM}{c:Vw}{s:Shared}{d:Nat}{Y:Mem}{env:Env}{Q:fA}{B:aw}{h:Heap}{k:CC}
noncomputable def RM:List (Str×V):=[(("iter":Str),V.bi .iter),(("isinstance":Str),V.bi .isinstance),(("str":Str),V.ty .str),(("bytes_types":Str),V.tuple [.ty .bytes,.ty .bytearray]),(("type":Str),V.ty .type),(("bytes":Str),V.ty .bytes),(("bytearray":Str),V.ty .bytearray),(("_wall":Str),V.glob 21),(("bool":Str),V.ty .bool),(("int":Str),V.ty .int),(("float":Str),V.ty .float),(("complex":Str),V.ty .complex),(("list":Str),V.ty .list),(("tuple":Str),V.ty .tuple),(("dict":Str),V.ty .dict),(("set":Str),V.ty .set),(("frozenset":Str),V.ty .frozenset),(("range":Str),V.ty .range),(("_ascii_buffer":Str),V.glob 91),(("_truth":Str),V.glob 105),(("_b64_value":Str),V.glob 112),(("_buffer":Str),V.glob 98),(("_B64":Str),V.bytes [65,66,67,68,69,70,71,72,73,74,75,76,77,78,79,80,81,82,83,84,85,86,87,88,89,90,97,98,99,100,101,102,103,104,105,106,107,108,109,110,111,112,113,114,115,116,117,118,119,120,121,122,48,49,50,51,52,53,54,55,56,57,43,47]),(("b2a_base64":Str),V.glob 128),(("len":Str),V.bi .len),(("_bytes_from_decode_data":Str),V.glob 71),(("a2b_base64":Str),V.glob 120),(("_NodeInfo":Str),V.glob 163),(("CycleError":Str),V.glob 178),(("_NODE_OUT":Str),V.int (-1)),(("_NODE_DONE":Str),V.int (-2)),(("StopIteration":Str),V.ty .lQ),(("_netrclex":Str),V.glob 59),(("ValueError":Str),V.ty .iO),(("_law_put":Str),V.glob 285),(("_law_lexer":Str),V.glob 271),(("TopologicalSorter":Str),V.glob 260),(("sorted":Str),V.bi .sorted),(("b64decode":Str),V.glob 144),(("_law_octets":Str),V.glob 278),(("zip":Str),V.ty .zip),(("sum":Str),V.bi .sum),(("b64encode":Str),V.glob 136),(("_law_read":Str),V.glob 297),(("_law_due":Str),V.glob 290),(("_law_stands":Str),V.glob 307),(("_law_handed":Str),V.glob 302),(("_law_told":Str),V.glob 319),(("_law_walk":Str),V.glob 314)]
noncomputable def pg:Pg:=⟨RM,[(59,15,42),(59,13,49),(59,14,56),(260,21,203),(260,5,210),(260,16,215),(260,17,222),(260,18,229),(260,19,243),(260,20,250)],[59,260],163,[178]⟩
structure Hd(J:Cx):Prop where
 hK:∃P,J.K=hp P
 ok:bp J
 pk:cB J pg
noncomputable def jf(J:Cx)(a:Addr)(nm:List (Str×Nat)):CC:=⟨pg.G,(fdOf J.K a).scope.names,nm⟩
def len0{α:Type}{l:List α}(h:l.length=0):l=[]:=by cases l with|nil=>rfl|cons _ _=>exact Nat.noConfusion h
def Cr{α:Type}{l:List α}(h:l.length=1):∃a,l=[a]:=by induction l using lC with
 |nil=>exact(nomatch h)|cons a l=>exact len0 (lI h)▸⟨a,rfl⟩
def Vg{α:Type}{l:List α}(h:l.length=2):∃a b,l=[a,b]:=by induction l using lC with
 |nil=>exact(nomatch h)|cons a l=>obtain⟨b,rfl⟩:=Cr (lI h);exact⟨a,b,rfl⟩
noncomputable def yV(ns:List Str):List (Str×Nat):=ns.zipIdx
noncomputable def O0(K:Frag)(a:Addr)(ns:List Str)(ms:List MS):Bool:=Nd K a (fdOf K a)&&gd ⟨RM,(fdOf K a).scope.names,yV ns⟩ ms (bodyOf (fdOf K a))
def qF{l:aI}{n:Nat}(h:l.length=n):l=(List.range n).map (λ i=>l.getD i .none):=by subst h;refine List.ext_getElem (by rw[a7,eB]) λ i M N=> ?_;rw[List.getElem_map,List.getElem_range,jX,gN M];rfl
def aA.app{vs ws:aw}{xs ys:aI}(r:aA c h vs xs)(q:aA c h ws ys):aA c h (vs++ws) (xs++ys):=by induction vs generalizing xs with
 |nil=>induction xs using lC with
  |nil=>exact q|cons=>exact r.elim
 |cons v vs z=>induction xs using lC with
  |nil=>exact r.elim|cons x xs=>exact⟨r.1,z r.2⟩
section
variable(H:Hd J)
include H
def Hd.fn{a:Addr}{ns:List Str}{ms:List MS}(h:∀P,O0 (hp P) a ns ms=true):FnAt J a (fdOf J.K a) (bodyOf (fdOf J.K a)):=by obtain⟨P,A⟩:=H.hK;exact LN H.ok (by exact A▸(ao (h P)).1)
def Hd.b4{a:Addr}{ns:List Str}{ms:List MS}(h:∀P,O0 (hp P) a ns ms=true):gd (jf J a (yV ns)) ms (bodyOf (fdOf J.K a))=true:=by obtain⟨P,A⟩:=H.hK;delta jf;exact A▸(ao (h P)).2
def Hd.bk{a:Addr}{ns xs:List Str}(h:∀P,jQ ⟨RM,(fdOf (hp P) a).scope.names,yV ns⟩ xs=true):jQ (jf J a (yV ns)) xs=true:=by obtain⟨P,A⟩:=H.hK;delta jf;exact A▸h P
def Hd.call{a:Addr}{ms:List MS}{args kws B:aw}{f:List Str}(ns:List Str)(n:Nat)(w:wSs J pg d ms (c7 Q) B Y)(C:aw:=[])(p:aI:=[])(hd:∀c h,aA c h C p:=by exact λ D D=>trivial)(M:∀P,O0 (hp P) a ns ms=true:=by intro x;kernel_rfl)(N:∀P,jQ ⟨RM,(fdOf (hp P) a).scope.names,yV ns⟩ ((ns.zip (args++(kws++C))).map (·.1))=true:=by intro x;kernel_rfl)(j:∀P S(x y:Nat->Value),peek (hp P) S (bindArgs (fdOf (hp P) a) ⟨(List.range args.length).map x,f.zip ((List.range kws.length).map y)⟩)=some (ns.zip ((List.range args.length).map x++((List.range kws.length).map y++p))):=by intro x y z w;kernel_rfl)(E:iY (jf J a (yV ns)) (List.replicate n .aC) (ns.zip (args++(kws++C)))=B:=by kernel_rfl):aJ J (d+1) (.glob a) args f kws Q Y:=by subst E;refine x4 H.ok H.pk (builtins H.ok) (H.fn M) (k:=jf J a (yV ns)) rfl rfl (H.b4 M) n (ns.zip (args++(kws++C))) (sL H.ok (λ xs ks=>ns.zip (xs++(ks++p))) (λ S xs ks b r=> ?_) λ c h xs ks q o D=>kh.zip (q.app (o.app (hd c h)))) (H.bk N) w;obtain⟨P,A⟩:=H.hK;refine A.symm▸(qF b).symm▸(qF r).symm▸?_;exact j P S _ _
def Hd.lp{a:Addr}{ms:List MS}{args B:aw}{X:Nat->Mem->Prop}(ns:List Str)(n:Nat)(w:wSs J pg d ms (Ic Q X) B Y)(M:∀P,O0 (hp P) a ns ms=true)(N:∀P,jQ ⟨RM,(fdOf (hp P) a).scope.names,yV ns⟩ ((ns.zip args).map (·.1))=true)(j:∀P S(x:Nat->Value),peek (hp P) S (bindArgs (fdOf (hp P) a) ⟨(List.range args.length).map x,[]⟩)=some (ns.zip ((List.range args.length).map x)))(C:iY (jf J a (yV ns)) (List.replicate n .aC) (ns.zip args)=B):rb J (d+1) (.glob a) args Q X Y:=by subst C;refine Ae H.ok H.pk (builtins H.ok) (H.fn M) (k:=jf J a (yV ns)) rfl rfl (H.b4 M) n (ns.zip args) (sL (kws:=[]) H.ok (λ xs ks=>ns.zip xs) (λ S xs ks b r=> ?_) λ c h xs ks q o D=>kh.zip q) (H.bk N) w;obtain⟨P,A⟩:=H.hK;refine A.symm▸(qF b).symm▸(len0 r).symm▸?_;exact j P S _
noncomputable def pq:List MS:=[(.assign [(.attr (.var 0) 0)] (.lit (.int 1))),(.assign [(.attr (.var 0) 1)] (.var 1)),(.assign [(.attr (.var 0) 2)] (.lit (.str [10,9,13,32]))),(.assign [(.attr (.var 0) 3)] (.list true []))]
noncomputable abbrev km:Nat:=35
def ni(i v1:V)(w:wSs J pg d pq (c7 Q) [i,v1] Y):aJ J (d+1) (.glob km) [i,v1] [] [] Q Y:=H.call ["self","fp"] 2 w
noncomputable def ku:List MS:=[(.assign [(.var 1)] (.a9 (.attr (.var 0) 1) 12 [(.lit (.int 1))])),(.dC (.cmp .Eq (.var 1) (.lit (.str [10]))) [(.ju (.var 0) 0 .Add (.lit (.int 1)))] []),(.ret (.var 1))]
noncomputable abbrev bg:Nat:=42
def jg(i:V)(w:wSs J pg d ku (c7 Q) [i,.aC] Y):aJ J (d+1) (.glob bg) [i] [] [] Q Y:=H.call ["self","ch"] 2 w
noncomputable def kY:List MS:=[(.dC (.attr (.var 0) 3) [(.ret (.a9 (.attr (.var 0) 3) 1 [(.lit (.int 0))]))] []),(.assign [(.var 1)] (.lit (.str []))),(.assign [(.var 2)] (.dZ 0 (.var 0))),(.oW 3 (.var 2) [(.dC (.cmp .In (.var 3) (.attr (.var 0) 2)) [.cont] []),(.dC (.cmp .Eq (.var 3) (.lit (.str [34]))) [(.oW 3 (.var 2) [(.dC (.cmp .Eq (.var 3) (.lit (.str [34]))) [(.ret (.var 1))] [(.dC (.cmp .Eq (.var 3) (.lit (.str [92]))) [(.assign [(.var 3)] (.a9 (.var 0) 15 []))] [])]),(.aug 1 .Add (.var 3))])] [(.dC (.cmp .Eq (.var 3) (.lit (.str [92]))) [(.assign [(.var 3)] (.a9 (.var 0) 15 []))] []),(.aug 1 .Add (.var 3)),(.oW 3 (.var 2) [(.dC (.cmp .In (.var 3) (.attr (.var 0) 2)) [(.ret (.var 1))] [(.dC (.cmp .Eq (.var 3) (.lit (.str [92]))) [(.assign [(.var 3)] (.a9 (.var 0) 15 []))] [])]),(.aug 1 .Add (.var 3))])])]),(.ret (.var 1))]
noncomputable abbrev gf:Nat:=49
def jR(i:V)(w:wSs J pg d kY (c7 Q) [i,.aC,.aC,.aC] Y):aJ J (d+1) (.glob gf) [i] [] [] Q Y:=H.call ["self","token","fiter","ch"] 4 w
noncomputable def iZ:List MS:=[(.dC (.call (.bT 1) [(.var 0),(.bT 2)] [] []) [(.Ez [(.ret (.a9 (.var 0) 6 [(.lit (.str [97,115,99,105,105]))]))])] []),(.dC (.call (.bT 1) [(.var 0),(.bT 3)] [] []) [(.ret (.var 0))] []),(.Ez [.dead])]
noncomputable abbrev eF:Nat:=71
def gX(i:V)(w:wSs J pg d iZ (c7 Q) [i] Y):aJ J (d+1) (.glob eF) [i] [] [] Q Y:=H.call ["s"] 1 w
noncomputable def qG:List MS:=[(.assign [(.var 1)] (.call (.bT 4) [(.var 0)] [] [])),(.dC (.cmp .Is (.var 1) (.bT 2)) [.dead,(.ret (.a9 (.var 0) 6 [(.lit (.str [97,115,99,105,105]))]))] []),(.dC (.cmp .Is (.var 1) (.bT 5)) [(.ret (.var 0))] []),(.dC (.cmp .Is (.var 1) (.bT 6)) [(.ret (.call (.bT 5) [(.var 0)] [] []))] []),(.expr (.call (.bT 7) [(.lit (.int 1))] [] []))]
noncomputable abbrev ly:Nat:=91
def om(i:V)(w:wSs J pg d qG (c7 Q) [i,.aC] Y):aJ J (d+1) (.glob ly) [i] [] [] Q Y:=H.call ["data","t"] 2 w
noncomputable def Cs:List MS:=[(.assign [(.var 1)] (.call (.bT 4) [(.var 0)] [] [])),(.dC (.cmp .Is (.var 1) (.bT 5)) [(.ret (.var 0))] []),(.dC (.cmp .Is (.var 1) (.bT 6)) [(.ret (.call (.bT 5) [(.var 0)] [] []))] []),(.expr (.call (.bT 7) [(.lit (.int 2))] [] []))]
noncomputable abbrev wQ:Nat:=98
def yd(i:V)(w:wSs J pg d Cs (c7 Q) [i,.aC] Y):aJ J (d+1) (.glob wQ) [i] [] [] Q Y:=H.call ["data","t"] 2 w
noncomputable def FA:List MS:=[(.assign [(.var 1)] (.call (.bT 4) [(.var 0)] [] [])),(.dC (.Qx [(.cmp .Is (.var 0) (.lit .none)),(.cmp .Is (.var 1) (.bT 8)),(.cmp .Is (.var 1) (.bT 9)),(.cmp .Is (.var 1) (.bT 10)),(.cmp .Is (.var 1) (.bT 11)),(.cmp .Is (.var 1) (.bT 2)),(.cmp .Is (.var 1) (.bT 5)),(.cmp .Is (.var 1) (.bT 6)),(.cmp .Is (.var 1) (.bT 12)),(.cmp .Is (.var 1) (.bT 13)),(.cmp .Is (.var 1) (.bT 14)),(.cmp .Is (.var 1) (.bT 15)),(.cmp .Is (.var 1) (.bT 16)),(.cmp .Is (.var 1) (.bT 17))]) [(.ret (.Qw (.var 0) (.lit (.bool true)) (.lit (.bool false))))] []),(.expr (.call (.bT 7) [(.lit (.int 3))] [] []))]
noncomputable abbrev Aw:Nat:=105
def Ax(i:V)(w:wSs J pg d FA (c7 Q) [i,.aC] Y):aJ J (d+1) (.glob Aw) [i] [] [] Q Y:=H.call ["x","t"] 2 w
noncomputable def vE:List MS:=[(.dC (.qp (.lit (.int 65)) .LtE (.var 0) .LtE (.lit (.int 90))) [(.ret (.bin .Sub (.var 0) (.lit (.int 65))))] []),(.dC (.qp (.lit (.int 97)) .LtE (.var 0) .LtE (.lit (.int 122))) [(.ret (.bin .Sub (.var 0) (.lit (.int 71))))] []),(.dC (.qp (.lit (.int 48)) .LtE (.var 0) .LtE (.lit (.int 57))) [(.ret (.bin .Add (.var 0) (.lit (.int 4))))] []),(.dC (.cmp .Eq (.var 0) (.lit (.int 43))) [(.ret (.lit (.int 62)))] []),(.dC (.cmp .Eq (.var 0) (.lit (.int 47))) [(.ret (.lit (.int 63)))] []),(.ret (.lit (.int 64)))]
noncomputable abbrev pw:Nat:=112
def rX(i:V)(w:wSs J pg d vE (c7 Q) [i] Y):aJ J (d+1) (.glob pw) [i] [] [] Q Y:=H.call ["c"] 1 w
noncomputable def vF:List MS:=[(.assign [(.var 2)] (.call (.bT 18) [(.var 0)] [] [])),(.assign [(.var 1)] (.call (.bT 19) [(.var 1)] [] [])),(.assign [(.var 3)] (.list true [])),(.assign [(.var 4)] (.lit (.int 0))),(.assign [(.var 5)] (.lit (.int 0))),(.assign [(.var 6)] (.lit (.int 0))),(.assign [(.var 7)] (.lit (.int 0))),(.ir [8] (.var 2) [(.dC (.cmp .Eq (.var 8) (.lit (.int 61))) [(.assign [(.var 6)] (.bin .Add (.var 6) (.lit (.int 1)))),(.dC (.xr [(.cmp .GtE (.var 4) (.lit (.int 2))),(.cmp .LtE (.bin .Add (.var 4) (.var 6)) (.lit (.int 4)))]) [(.assign [(.var 7)] (.bin .Add (.var 7) (.lit (.int 1)))),.cont] []),(.dC (.zu (.var 1)) [(.assign [(.var 7)] (.bin .Add (.var 7) (.lit (.int 1)))),.cont] []),(.dC (.cmp .Eq (.var 4) (.lit (.int 1))) [.brk] []),(.dC (.xr [(.cmp .Eq (.var 4) (.lit (.int 0))),(.cmp .Eq (.var 7) (.lit (.int 0)))]) [.dead] []),.dead] []),(.assign [(.var 8)] (.call (.bT 20) [(.var 8)] [] [])),(.dC (.cmp .GtE (.var 8) (.lit (.int 64))) [(.dC (.var 1) [.dead] []),(.assign [(.var 7)] (.bin .Add (.var 7) (.lit (.int 1)))),.cont] []),(.dC (.xr [(.var 6),(.var 1)]) [(.dC (.cmp .Eq (.bin .Add (.var 4) (.var 6)) (.lit (.int 4))) [.dead] []),.dead] []),(.assign [(.var 6)] (.lit (.int 0))),(.dC (.cmp .Eq (.var 4) (.lit (.int 0))) [(.assign [(.var 4)] (.lit (.int 1))),(.assign [(.var 5)] (.var 8))] [(.dC (.cmp .Eq (.var 4) (.lit (.int 1))) [(.assign [(.var 4)] (.lit (.int 2))),(.expr (.a9 (.var 3) 0 [(.bin .BitOr (.bin .LShift (.var 5) (.lit (.int 2))) (.bin .RShift (.var 8) (.lit (.int 4))))])),(.assign [(.var 5)] (.bin .BitAnd (.var 8) (.lit (.int 15))))] [(.dC (.cmp .Eq (.var 4) (.lit (.int 2))) [(.assign [(.var 4)] (.lit (.int 3))),(.expr (.a9 (.var 3) 0 [(.bin .BitOr (.bin .LShift (.var 5) (.lit (.int 4))) (.bin .RShift (.var 8) (.lit (.int 2))))])),(.assign [(.var 5)] (.bin .BitAnd (.var 8) (.lit (.int 3))))] [(.assign [(.var 4)] (.lit (.int 0))),(.expr (.a9 (.var 3) 0 [(.bin .BitOr (.bin .LShift (.var 5) (.lit (.int 6))) (.var 8))])),(.assign [(.var 5)] (.lit (.int 0)))])])]),(.assign [(.var 7)] (.bin .Add (.var 7) (.lit (.int 1))))]),(.dC (.cmp .Eq (.var 4) (.lit (.int 1))) [.dead] []),(.dC (.xr [(.cmp .NotEq (.var 4) (.lit (.int 0))),(.cmp .Lt (.bin .Add (.var 4) (.var 6)) (.lit (.int 4)))]) [.dead] []),(.ret (.call (.bT 5) [(.var 3)] [] []))]
noncomputable abbrev pz:Nat:=120
def rY(i k0:V)(w:wSs J pg d vF (c7 Q) [i,k0,.aC,.aC,.aC,.aC,.aC,.aC,.aC] Y):aJ J (d+1) (.glob pz) [i] ["strict_mode"] [k0] Q Y:=H.call ["data","strict_mode","ascii_data","out","quad_pos","leftchar","pads","i","this_ch"] 9 w
noncomputable def vG:List MS:=[(.assign [(.var 2)] (.call (.bT 21) [(.var 0)] [] [])),(.assign [(.var 1)] (.call (.bT 19) [(.var 1)] [] [])),(.assign [(.var 3)] (.list true [])),(.assign [(.var 4)] (.lit (.int 0))),(.assign [(.var 5)] (.lit (.int 0))),(.ir [6] (.var 2) [(.assign [(.var 5)] (.bin .BitAnd (.bin .BitOr (.bin .LShift (.var 5) (.lit (.int 8))) (.var 6)) (.lit (.int 65535)))),(.assign [(.var 4)] (.bin .Add (.var 4) (.lit (.int 8)))),(.gq (.cmp .GtE (.var 4) (.lit (.int 6))) [(.expr (.a9 (.var 3) 0 [(.sub (.bT 22) (.bin .BitAnd (.bin .RShift (.var 5) (.bin .Sub (.var 4) (.lit (.int 6)))) (.lit (.int 63))))])),(.assign [(.var 4)] (.bin .Sub (.var 4) (.lit (.int 6))))] [])]),(.dC (.cmp .Eq (.var 4) (.lit (.int 2))) [(.expr (.a9 (.var 3) 0 [(.sub (.bT 22) (.bin .LShift (.bin .BitAnd (.var 5) (.lit (.int 3))) (.lit (.int 4))))])),(.expr (.a9 (.var 3) 0 [(.lit (.int 61))])),(.expr (.a9 (.var 3) 0 [(.lit (.int 61))]))] [(.dC (.cmp .Eq (.var 4) (.lit (.int 4))) [(.expr (.a9 (.var 3) 0 [(.sub (.bT 22) (.bin .LShift (.bin .BitAnd (.var 5) (.lit (.int 15))) (.lit (.int 2))))])),(.expr (.a9 (.var 3) 0 [(.lit (.int 61))]))] [])]),(.dC (.var 1) [(.expr (.a9 (.var 3) 0 [(.lit (.int 10))]))] []),(.ret (.call (.bT 5) [(.var 3)] [] []))]
noncomputable abbrev pA:Nat:=128
def rZ(i k0:V)(w:wSs J pg d vG (c7 Q) [i,k0,.aC,.aC,.aC,.aC,.aC] Y):aJ J (d+1) (.glob pA) [i] ["newline"] [k0] Q Y:=H.call ["data","newline","bin_data","out","leftbits","leftchar","b"] 7 w
noncomputable def ye:List MS:=[(.assign [(.var 2)] (.call (.bT 23) [(.var 0)] ["newline"] [(.lit (.bool false))])),(.dC (.cmp .IsNot (.var 1) (.lit .none)) [(.jw (.cmp .Eq (.call (.bT 24) [(.var 1)] [] []) (.lit (.int 2)))),(.ret (.a9 (.var 2) 9 [(.a9 (.bT 5) 11 [(.lit (.bytes [43,47])),(.var 1)])]))] []),(.ret (.var 2))]
noncomputable abbrev mm:Nat:=136
def uB(i v1:V)(w:wSs J pg d ye (c7 Q) [i,v1,.aC] Y):aJ J (d+1) (.glob mm) [i,v1] [] [] Q Y:=H.call ["s","altchars","encoded"] 3 w
noncomputable def yf:List MS:=[(.assign [(.var 0)] (.call (.bT 25) [(.var 0)] [] [])),(.dC (.cmp .IsNot (.var 1) (.lit .none)) [(.assign [(.var 1)] (.call (.bT 25) [(.var 1)] [] [])),(.jw (.cmp .Eq (.call (.bT 24) [(.var 1)] [] []) (.lit (.int 2)))),(.assign [(.var 0)] (.a9 (.var 0) 9 [(.a9 (.bT 5) 11 [(.var 1),(.lit (.bytes [43,47]))])]))] []),(.ret (.call (.bT 26) [(.var 0)] ["strict_mode"] [(.var 2)]))]
noncomputable abbrev mq:Nat:=144
def uC(i:V)(w:wSs J pg d yf (c7 Q) [i,.none,.bool false] Y):aJ J (d+1) (.glob mq) [i] [] [] Q Y:=H.call ["s","altchars","validate"] 3 w [.none,.bool false] [.none,.bool false] λ D D=>⟨rfl,rfl,trivial⟩
noncomputable def pB:List MS:=[(.assign [(.slot (.var 0) 0)] (.var 1)),(.assign [(.slot (.var 0) 1)] (.lit (.int 0))),(.assign [(.slot (.var 0) 2)] (.list true []))]
noncomputable abbrev kz:Nat:=159
def nk(i v1:V)(w:wSs J pg d pB (c7 Q) [i,v1] Y):aJ J (d+1) (.glob kz) [i,v1] [] [] Q Y:=H.call ["self","node"] 2 w
noncomputable def jh:List MS:=[(.assign [(.attr (.var 0) 5)] .wq),(.assign [(.attr (.var 0) 6)] (.lit .none)),(.assign [(.attr (.var 0) 7)] (.lit (.int 0))),(.assign [(.attr (.var 0) 8)] (.lit (.int 0))),(.dC (.cmp .IsNot (.var 1) (.lit .none)) [.dead] [])]
noncomputable abbrev eR:Nat:=196
def ix(i:V)(w:wSs J pg d jh (c7 Q) [i,.none] Y):aJ J (d+1) (.glob eR) [i] [] [] Q Y:=H.call ["self","graph"] 2 w [.none] [.none] λ D D=>⟨rfl,trivial⟩
noncomputable def fe:List MS:=[(.wu 2 (.a9 (.attr (.var 0) 5) 4 [(.var 1)]) [(.assign [(.sub (.attr (.var 0) 5) (.var 1)),(.var 2)] (.call (.bT 27) [(.var 1)] [] []))] []),(.ret (.var 2))]
noncomputable abbrev c0:Nat:=203
def eK(i v1:V)(w:wSs J pg d fe (c7 Q) [i,v1,.aC] Y):aJ J (d+1) (.glob c0) [i,v1] [] [] Q Y:=H.call ["self","node","result"] 3 w
noncomputable def eS:List MS:=[(.dC (.cmp .IsNot (.attr (.var 0) 6) (.lit .none)) [.dead] []),(.assign [(.var 3)] (.a9 (.var 0) 21 [(.var 1)])),(.jv (.var 3) 1 .Add (.call (.bT 24) [(.var 2)] [] [])),(.ir [4] (.var 2) [(.assign [(.var 5)] (.a9 (.var 0) 21 [(.var 4)])),(.expr (.a9 (.slot (.var 5) 2) 0 [(.var 1)]))])]
noncomputable abbrev bx:Nat:=210
noncomputable abbrev dj:List Str:=["self","node","predecessors","nodeinfo","pred","pred_info"]
omit H in
def fw(P:Params):O0 (hp P) bx dj eS=true:=by kernel_rfl
noncomputable def gY:List MS:=[(.dC (.cmp .IsNot (.attr (.var 0) 6) (.lit .none)) [.dead] []),(.assign [(.attr (.var 0) 6)] (.comp true (.slot (.var 1) 0) [1] (.values (.attr (.var 0) 5)) [(.cmp .Eq (.slot (.var 1) 1) (.lit (.int 0)))])),(.assign [(.var 2)] (.a9 (.var 0) 20 [])),(.dC (.var 2) [(.lW 28 178 [(.GF (.lit (.str [110,111,100,101,115,32,97,114,101,32,105,110,32,97,32,99,121,99,108,101]))),(.var 2)])] [])]
noncomputable abbrev d0:Nat:=215
def gB{X:Nat->Mem->Prop}(i:V)(w:wSs J pg d gY (Ic Q X) [i,.aC,.aC] Y):rb J (d+1) (.glob d0) [i] Q X Y:=H.lp ["self","i","cycle"] 3 w (λ D=>by kernel_rfl) (λ D=>by kernel_rfl) (λ D D D=>by kernel_rfl) (by kernel_rfl)
noncomputable def gC:List MS:=[(.dC (.cmp .Is (.attr (.var 0) 6) (.lit .none)) [.dead] []),(.assign [(.var 1)] (.call (.bT 13) [(.attr (.var 0) 6)] [] [])),(.assign [(.var 2)] (.attr (.var 0) 5)),(.ir [3] (.var 1) [(.assign [(.slot (.sub (.var 2) (.var 3)) 1)] (.bT 29))]),(.expr (.a9 (.attr (.var 0) 6) 3 [])),(.ju (.var 0) 7 .Add (.call (.bT 24) [(.var 1)] [] [])),(.ret (.var 1))]
noncomputable abbrev dF:Nat:=222
def fU(i:V)(w:wSs J pg d gC (c7 Q) [i,.aC,.aC,.aC] Y):aJ J (d+1) (.glob dF) [i] [] [] Q Y:=H.call ["self","result","n2i","node"] 4 w
noncomputable def gD:List MS:=[(.dC (.cmp .Is (.attr (.var 0) 6) (.lit .none)) [.dead] []),(.ret (.bor (.cmp .Lt (.attr (.var 0) 8) (.attr (.var 0) 7)) (.call (.bT 8) [(.attr (.var 0) 6)] [] [])))]
noncomputable abbrev dG:Nat:=229
def fV(i:V)(w:wSs J pg d gD (c7 Q) [i] Y):aJ J (d+1) (.glob dG) [i] [] [] Q Y:=H.call ["self"] 1 w
noncomputable def c5:List MS:=[(.dC (.cmp .Is (.attr (.var 0) 6) (.lit .none)) [.dead] []),(.assign [(.var 2)] (.attr (.var 0) 5)),(.ir [3] (.var 1) [(.wu 4 (.a9 (.var 2) 4 [(.var 3)]) [.dead] []),(.assign [(.var 5)] (.slot (.var 4) 1)),(.dC (.cmp .NotEq (.var 5) (.bT 29)) [(.dC (.cmp .GtE (.var 5) (.lit (.int 0))) [(.lW 33 0 [(.tA 3)])] [(.dC (.cmp .Eq (.var 5) (.bT 30)) [(.lW 33 0 [(.tA 3)])] [(.jw (.lit (.bool false)))])])] []),(.assign [(.slot (.var 4) 1)] (.bT 30)),(.ir [6] (.slot (.var 4) 2) [(.assign [(.var 7)] (.sub (.var 2) (.var 6))),(.jv (.var 7) 1 .Sub (.lit (.int 1))),(.dC (.cmp .Eq (.slot (.var 7) 1) (.lit (.int 0))) [(.expr (.a9 (.attr (.var 0) 6) 0 [(.var 6)]))] [])]),(.ju (.var 0) 8 .Add (.lit (.int 1)))])]
noncomputable abbrev aV:Nat:=243
noncomputable abbrev bE:List Str:=["self","nodes","n2i","node","nodeinfo","stat","successor","successor_info"]
omit H in
def b7(P:Params):O0 (hp P) aV bE c5=true:=by kernel_rfl
noncomputable def fW:List MS:=[(.assign [(.var 1)] (.attr (.var 0) 5)),(.assign [(.var 2)] (.list true [])),(.assign [(.var 3)] (.list true [])),(.assign [(.var 4)] (.call (.bT 15) [] [] [])),(.assign [(.var 5)] .wq),(.ir [6] (.var 1) [(.dC (.cmp .In (.var 6) (.var 4)) [.cont] []),(.gq (.lit (.bool true)) [(.dC (.cmp .In (.var 6) (.var 4)) [(.dC (.cmp .In (.var 6) (.var 5)) [(.ret (.bin .Add (.slice (.var 2) (some (.sub (.var 5) (.var 6))) none) (.list false [(.var 6)])))] [])] [(.expr (.a9 (.var 4) 5 [(.var 6)])),(.expr (.a9 (.var 3) 0 [(.tv 0 (.slot (.sub (.var 1) (.var 6)) 2))])),(.assign [(.sub (.var 5) (.var 6))] (.call (.bT 24) [(.var 2)] [] [])),(.expr (.a9 (.var 2) 0 [(.var 6)]))]),(.gq (.var 2) [(.mI 6 2 3 5 31)] [.brk])] [])]),(.ret (.lit .none))]
noncomputable abbrev dp:Nat:=250
def ff(i:V)(w:wSs J pg d fW (c7 Q) [i,.aC,.aC,.aC,.aC,.aC,.aC] Y):aJ J (d+1) (.glob dp) [i] [] [] Q Y:=H.call ["self","n2i","stack","itstack","seen","node2stacki","node"] 7 w
noncomputable def vH:List MS:=[(.assign [(.var 1)] (.call (.bT 32) [(.lit .none)] [] [])),(.assign [(.var 2)] (.list true [])),.dead,(.assign [(.attr (.var 1) 4)] (.var 3)),(.ret (.call (.bT 32) [(.var 1)] [] []))]
noncomputable abbrev a6:Nat:=271
noncomputable def b8:List (Str×Nat):=[("count",0),("text",1),("gone",2),("piece",3)]
noncomputable def eU:List MS:=[(.assign [(.var 3)] (.slice (.var 1) (some (.call (.bT 24) [(.var 2)] [] [])) (some (.bin .Add (.call (.bT 24) [(.var 2)] [] []) (.var 0))))),(.expr (.a9 (.var 2) 2 [(.var 3)])),(.ret (.var 3))]
noncomputable abbrev jS:List Str:=["text","stream","gone","_law_piece"]
omit H in
def yg(P:Params):O0 (hp P) a6 jS vH=true:=by kernel_rfl
noncomputable def uD:List MS:=[(.assign [(.var 1)] (.list true [])),(.ir [2] (.range 17 [(.lit (.int 0)),(.call (.bT 24) [(.var 0)] [] []),(.lit (.int 4))]) [(.assign [(.var 3)] (.lit (.int 0))),(.ir [4] (.slice (.var 0) (some (.var 2)) (some (.bin .Add (.var 2) (.lit (.int 4))))) [(.assign [(.var 3)] (.bin .Add (.bin .Mult (.var 3) (.lit (.int 64))) (.var 4)))]),(.aug 1 .Add (.list false [(.bin .FloorDiv (.var 3) (.lit (.int 65536))),(.bin .Mod (.bin .FloorDiv (.var 3) (.lit (.int 256))) (.lit (.int 256))),(.bin .Mod (.var 3) (.lit (.int 256)))]))]),(.ret (.call (.bT 5) [(.var 1)] [] []))]
noncomputable abbrev gI:Nat:=278
def qH(i:V)(w:wSs J pg d uD (c7 Q) [i,.aC,.aC,.aC,.aC] Y):aJ J (d+1) (.glob gI) [i] [] [] Q Y:=H.call ["figures","row","place","number","figure"] 5 w
noncomputable def Ay:List MS:=[(.ret (.tuple [(.sub (.var 1) (.lit (.int 0))),(.bin .Add (.var 0) (.sub (.var 1) (.lit (.int 1))))]))]
noncomputable abbrev oo:Nat:=285
def vI(i v1:V)(w:wSs J pg d Ay (c7 Q) [i,v1] Y):aJ J (d+1) (.glob oo) [i,v1] [] [] Q Y:=H.call ["sign","call"] 2 w
noncomputable def Az:List MS:=[(.assign [(.var 1)] (.call (.bT 24) [(.var 0)] [] [])),(.unpack [3,4,5] (.comp false (.mulM (.list false [(.tuple [(.var 1),(.lit (.str []))])]) (.bin .Add (.var 1) (.lit (.int 2)))) [2] (.range 17 [(.lit (.int 3))]) [])),(.ir [6] (.range 17 [(.bin .Sub (.var 1) (.lit (.int 1))),(.neg (.lit (.int 1))),(.neg (.lit (.int 1)))]) [(.unpack [7,8] (.tuple [(.sub (.var 0) (.var 6)),(.slice (.var 0) (some (.bin .Add (.var 6) (.lit (.int 1)))) (some (.bin .Add (.var 6) (.lit (.int 2)))))])),(.dC (.cmp .Eq (.var 7) (.lit (.str [92]))) [(.assign [(.var 9)] (.call (.bT 34) [(.var 8),(.sub (.var 4) (.bin .Add (.var 6) (.lit (.int 2))))] [] [])),(.assign [(.var 10)] (.list false [(.var 9),(.var 9),(.call (.bT 34) [(.var 8),(.sub (.var 5) (.bin .Add (.var 6) (.lit (.int 2))))] [] [])]))] [(.dC (.cmp .Eq (.var 7) (.lit (.str [34]))) [(.assign [(.var 10)] (.list false [(.sub (.var 5) (.bin .Add (.var 6) (.lit (.int 1)))),(.call (.bT 34) [(.var 7),(.sub (.var 4) (.bin .Add (.var 6) (.lit (.int 1))))] [] []),(.tuple [(.bin .Add (.var 6) (.lit (.int 1))),(.lit (.str []))])]))] [(.dC (.cmp .In (.var 7) (.lit (.str [32,9,13,10]))) [(.assign [(.var 10)] (.list false [(.sub (.var 3) (.bin .Add (.var 6) (.lit (.int 1)))),(.tuple [(.bin .Add (.var 6) (.lit (.int 1))),(.lit (.str []))]),(.call (.bT 34) [(.var 7),(.sub (.var 5) (.bin .Add (.var 6) (.lit (.int 1))))] [] [])]))] [(.assign [(.var 9)] (.call (.bT 34) [(.var 7),(.sub (.var 4) (.bin .Add (.var 6) (.lit (.int 1))))] [] [])),(.assign [(.var 10)] (.list false [(.var 9),(.var 9),(.call (.bT 34) [(.var 7),(.sub (.var 5) (.bin .Add (.var 6) (.lit (.int 1))))] [] [])]))])])]),(.kO [(.sub (.var 3) (.var 6)),(.sub (.var 4) (.var 6)),(.sub (.var 5) (.var 6))] (.var 10))]),(.assign [(.var 11)] (.list true [])),(.ir [6] (.range 17 [(.bin .FloorDiv (.var 1) (.lit (.int 2)))]) [(.unpack [12,13] (.sub (.var 3) (.var 6))),(.expr (.a9 (.var 11) 0 [(.tuple [(.var 12),(.var 13),(.bin .Add (.lit (.int 1)) (.a9 (.slice (.var 0) (some (.var 6)) (some (.var 12))) 8 [(.lit (.str [10]))]))])]))]),(.ret (.freeze (.var 11)))]
noncomputable abbrev oq:Nat:=290
def vJ(i:V)(w:wSs J pg d Az (c7 Q) [i,.aC,.aC,.aC,.aC,.aC,.aC,.aC,.aC,.aC,.aC,.aC,.aC,.aC] Y):aJ J (d+1) (.glob oq) [i] [] [] Q Y:=H.call ["text","count","manner","fresh","plain","quoted","place","sign","kept","bare","rows","due","end","word"] 14 w
noncomputable def yh:List MS:=[(.assign [(.var 2)] (.call (.bT 35) [(.slice (.var 0) (some (.var 1)) none)] [] [])),(.assign [(.var 3)] (.a9 (.var 2) 13 [])),(.assign [(.var 4)] (.attr (.var 2) 0)),(.ret (.tuple [(.bin .Sub (.call (.bT 24) [(.var 0)] [] []) (.call (.bT 24) [(.a9 (.attr (.var 2) 1) 12 [(.call (.bT 24) [(.var 0)] [] [])])] [] [])),(.var 3),(.var 4)]))]
noncomputable abbrev mu:Nat:=297
def uE(i v1:V)(w:wSs J pg d yh (c7 Q) [i,v1,.aC,.aC,.aC] Y):aJ J (d+1) (.glob mu) [i,v1] [] [] Q Y:=H.call ["text","place","lexer","word","lines"] 5 w
noncomputable def uF:List MS:=[(.assign [(.var 1)] (.call (.bT 36) [] [] [])),(.ir [2] (.range 17 [(.lit (.int 6))]) [(.expr (.a9 (.var 1) 5 [(.sub (.var 0) (.var 2)),(.var 2)]))]),(.ir [3] (.range 17 [(.lit (.int 12))]) [(.expr (.nE (.var 1) 5 [(.var 3),(.star (.comp false (.var 2) [2] (.range 17 [(.lit (.int 6)),(.lit (.int 12))]) [(.cmp .Eq (.sub (.var 0) (.var 2)) (.var 3))]))]))]),(.assign [(.var 4)] (.lit (.bool false))),(.EA [(.lp (.var 1) 16 [])] 28 178 (some (4,(.bool true)))),(.assign [(.var 5)] (.list true [])),(.gq (.a9 (.var 1) 18 []) [(.assign [(.var 6)] (.a9 (.var 1) 17 [])),(.expr (.nE (.var 1) 19 [(.star (.var 6))])),(.expr (.a9 (.var 5) 0 [(.call (.bT 37) [(.var 6)] [] [])]))] []),(.assign [(.var 7)] (.list true [])),(.ir [2] (.range 17 [(.lit (.int 12))]) [(.EA [(.lp (.var 1) 19 [(.var 2)]),(.expr (.a9 (.var 7) 0 [(.var 2)]))] 33 0 none)]),(.ret (.tuple [(.var 4),(.freeze (.var 5)),(.freeze (.var 7)),(.a9 (.var 1) 18 [])]))]
noncomputable abbrev jT:Nat:=302
def qI(i:V)(w:wSs J pg d uF (c7 Q) [i,.aC,.aC,.aC,.aC,.aC,.aC,.aC] Y):aJ J (d+1) (.glob jT) [i] [] [] Q Y:=H.call ["steps","sorter","place","stop","refused","groups","group","again"] 8 w
noncomputable def uG:List MS:=[(.unpack [1,2] (.tuple [(.wt 12 17 [(.lit (.int 12))]),(.list true [])])),(.ir [3] (.range 17 [(.lit (.int 12))]) [(.assign [(.var 5)] (.call (.bT 37) [(.Ey (.sub (.var 0) (.var 4)) [4] (.var 1))] [] [])),(.expr (.a9 (.var 2) 0 [(.comp false (.var 4) [4] (.var 1) [(.cmp .NotIn (.var 4) (.var 5))])])),(.assign [(.var 1)] (.var 5))]),(.ret (.tuple [(.comp false (.var 6) [6] (.var 2) [(.cmp .NotEq (.var 6) (.list false []))]),(.var 1)]))]
noncomputable abbrev jU:Nat:=307
def qJ(i:V)(w:wSs J pg d uG (c7 Q) [i,.aC,.aC,.aC,.aC,.aC,.aC] Y):aJ J (d+1) (.glob jU) [i] [] [] Q Y:=H.call ["steps","stands","groups","turn","place","after","group"] 7 w
noncomputable def yi:List MS:=[(.unpack [3,4] (.tuple [(.sub (.var 1) (.var 0)),(.sub (.sub (.var 2) (.var 0)) (.lit (.int 1)))])),(.gq (.cmp .NotEq (.var 3) (.var 0)) [(.aug 4 .Add (.sub (.sub (.var 2) (.var 3)) (.lit (.int 1)))),(.assign [(.var 3)] (.sub (.var 1) (.var 3)))] []),(.ret (.var 4))]
noncomputable abbrev mw:Nat:=314
def uH(i v1 v2:V)(w:wSs J pg d yi (c7 Q) [i,v1,v2,.aC,.aC] Y):aJ J (d+1) (.glob mw) [i,v1,v2] [] [] Q Y:=H.call ["start","steps","calls","place","joined"] 5 w
noncomputable def yj:List MS:=[(.assign [(.var 3)] (.comp false (.var 2) [2] (.var 1) [(.cmp .Lt (.var 2) (.lit (.int 62)))])),(.assign [(.var 4)] (.bin .Mod (.neg (.call (.bT 24) [(.var 3)] [] [])) (.lit (.int 4)))),(.ret (.cmp .Eq (.call (.bT 38) [(.bin .Add (.var 0) (.bin .Mult (.lit (.str [65])) (.var 4)))] [] []) (.call (.bT 39) [(.bin .Add (.var 3) (.bin .Mult (.list false [(.lit (.int 0))]) (.var 4)))] [] [])))]
noncomputable abbrev jA:Nat:=319
def uI(i v1:V)(w:wSs J pg d yj (c7 Q) [i,v1,.aC,.aC,.aC] Y):aJ J (d+1) (.glob jA) [i,v1] [] [] Q Y:=H.call ["word","figures","figure","plain","short"] 5 w
noncomputable def gE:List MS:=[(.assign [(.var 2)] (.comp false (.bin .Mod (.call (.bT 9) [(.var 1)] [] []) (.bin .Pow (.lit (.int 10)) (.lit (.int 6)))) [1] (.slice (.var 0) none (some (.lit (.int 9)))) [])),(.assign [(.var 4)] (.comp false (.bin .Mod (.bin .Add (.var 3) (.var 1)) (.lit (.int 8))) [3,1] (.zip 40 (.list false [(.lit (.int 3)),(.lit (.int 1)),(.lit (.int 4)),(.lit (.int 0)),(.lit (.int 3)),(.lit (.int 4)),(.lit (.int 7)),(.lit (.int 4)),(.lit (.int 1))]) (.bin .Add (.var 2) (.bin .Mult (.list false [(.lit (.int 0))]) (.lit (.int 9))))) [])),(.assign [(.var 5)] (.bin .Add (.bin .Add (.slice (.var 4) none (some (.lit (.int 8)))) (.list false [(.lit (.int 0)),(.lit (.int 3)),(.lit (.int 4))])) (.slice (.var 4) (some (.lit (.int 8))) none))),(.assign [(.var 7)] (.comp false (.sub (.list false [(.lit (.int 0)),(.lit (.int 26)),(.lit (.int 61)),(.lit (.int 62)),(.lit (.int 63)),(.lit (.int 62)),(.lit (.int 63)),(.lit (.int 1))]) (.var 6)) [6] (.var 5) [])),(.assign [(.var 8)] (.list false [(.lit (.str [34,32])),(.lit (.str [92,34])),(.lit (.str [9,92])),(.lit (.str [34,13])),(.lit (.str [10,34])),(.lit (.str [92,10]))])),(.assign [(.var 9)] (.bin .FloorDiv (.call (.bT 41) [(.var 2)] [] []) (.lit (.int 8)))),(.assign [(.var 10)] (.list false [(.sub (.var 8) (.bin .Mod (.var 9) (.lit (.int 6)))),(.sub (.var 8) (.bin .Mod (.bin .Add (.var 9) (.lit (.int 1))) (.lit (.int 6)))),(.sub (.var 8) (.lit (.int 0)))])),(.assign [(.var 12)] (.comp false (.call (.bT 42) [(.call (.bT 39) [(.slice (.var 7) (some (.bin .Mult (.lit (.int 4)) (.var 11))) (some (.bin .Add (.bin .Mult (.lit (.int 4)) (.var 11)) (.lit (.int 4)))))] [] []),(.a9 (.sub (.var 10) (.var 11)) 6 [(.lit (.str [97,115,99,105,105]))])] [] []) [11] (.range 17 [(.lit (.int 3))]) [])),(.assign [(.var 13)] (.a9 (.a9 (.lit (.bytes [])) 7 [(.var 12)]) 10 [(.lit (.str [97,115,99,105,105]))])),(.dC (.cmp .NotEq (.var 13) (.a9 (.lit (.str [])) 7 [(.comp false (.sub (.bin .Add (.bin .Add (.lit (.str [65,97,57])) (.bin .Mult (.sub (.var 10) (.bin .FloorDiv (.var 14) (.lit (.int 4)))) (.lit (.int 2)))) (.lit (.str [66]))) (.sub (.var 5) (.var 14))) [14] (.range 17 [(.lit (.int 12))]) [])])) [(.ret (.lit (.bool false)))] []),(.assign [(.var 15)] (.comp false (.call (.bT 43) [(.bin .Add (.var 13) (.var 13)),(.var 14)] [] []) [14] (.range 17 [(.lit (.int 12))]) [])),(.dC (.cmp .NotEq (.var 15) (.call (.bT 44) [(.bin .Add (.var 13) (.var 13))] [] [])) [(.ret (.lit (.bool false)))] []),(.assign [(.var 17)] (.comp false (.bin .Mod (.sub (.var 16) (.lit (.int 0))) (.lit (.int 12))) [16] (.var 15) [])),(.unpack [18,19] (.call (.bT 45) [(.var 17)] [] [])),(.dC (.cmp .NotEq (.call (.bT 46) [(.var 17)] [] []) (.tuple [(.lit (.bool true)),(.var 18),(.list false []),(.lit (.bool false))])) [(.ret (.lit (.bool false)))] []),(.assign [(.var 20)] (.bin .Add (.var 7) (.var 7))),(.dC (.cmp .In (.lit (.bool false)) (.comp false (.call (.bT 47) [(.sub (.sub (.var 15) (.var 14)) (.lit (.int 1))),(.slice (.var 20) (some (.var 14)) (some (.sub (.sub (.var 15) (.var 14)) (.lit (.int 0)))))] [] []) [14] (.range 17 [(.lit (.int 12))]) [])) [(.ret (.lit (.bool false)))] []),(.assign [(.var 3)] (.sub (.var 19) (.neg (.lit (.int 1))))),(.ret (.call (.bT 47) [(.call (.bT 48) [(.var 3),(.var 17),(.var 15)] [] []),(.slice (.var 20) (some (.var 3)) (some (.bin .Add (.var 3) (.lit (.int 12)))))] [] []))]
noncomputable abbrev uJ:Nat:=324
def IW(i:V)(w:wSs J pg d gE (c7 Q) [i,.aC,.aC,.aC,.aC,.aC,.aC,.aC,.aC,.aC,.aC,.aC,.aC,.aC,.aC,.aC,.aC,.aC,.aC,.aC,.aC] Y):aJ J (d+1) (.glob uJ) [i] [] [] Q Y:=H.call ["script","cell","cells","start","drawn","kinds","kind","figures","pairs","turn","marks","k","parts","text","place","calls","call","steps","groups","ring","endless"] 21 w
end
def kh.append{vs L:List (Str×V)}{bs l:List (Str×Value)}(p:kh c h vs bs)(q:kh c h L l):kh c h (vs++L) (bs++l):=by induction vs generalizing bs with
 |nil=>induction bs using lC with
  |nil=>exact q|cons=>exact p.elim
 |cons v vs z=>induction bs using lC with
  |nil=>exact p.elim|cons b bs=>exact⟨p.1,p.2.1,z p.2.2⟩
def yk(ok:bp J){x:FuncData}{ps:List Str}{va:Str}{a1 a2:aw}(H:short a2=true)(hp:∀(xs ys:aI),xs.length=a1.length->bindArgs x ⟨xs++ys,[]⟩=newTuple ys>>=λ t=>pure (ps.zip xs++[(va,t)]))(A:Around)(E:dM)(c:Vw)(s:Shared)(xs:aI)(ks:List (Str×Value))(R:Rel J c s)(T:c.Y=Y)(e:aA c s.heap (a1++a2) xs)(v:dn c s.heap [] [] ks):wpAny J.ay A (bindArgs x ⟨xs,ks⟩) (M5 J c s Y (ps.zip a1++[(va,.tuple a2)])) E s:=by
 refine v.no.symm▸?_;have I:=e.length;rw[bH]at I;rw[<-List.take_append_drop a1.length xs]at e⊢;have t1:(xs.take a1.length).length=a1.length:=List.length_take_of_le (I▸av ..);have q:aA c s.heap a1 (xs.take a1.length):=by have:=e.take a1.length;rwa[List.take_left,List.take_left' t1]at this
 have o:aA c s.heap a2 (xs.drop a1.length):=by have:=e.drop a1.length;rwa[List.drop_left,List.drop_left' t1]at this
 refine(hp _ (xs.drop a1.length) t1).symm▸?_;have S:=R.push {cls:= .type "tuple",data:= .seq (xs.drop a1.length).toArray} s.toks;exact ag (wpAny_newTuple (hsz:=by
  refine o.length▸aK.symm▸?_
  exact aa (ae H) dD) (ax ⟨c,S,T,kh.append (kh.zip (q.carry S.carry)) ⟨rfl,⟨s.heap.objs.size,xs.drop a1.length,rfl,⟨0,bS _ rfl⟩,mF R,o.carry S.carry⟩,trivial⟩⟩))
def i0(H:Hd J)(i v1:V)(ps:aw)(C:short ps=true)(w:wSs J pg d eS (c7 Q) [i,v1,.tuple ps,.aC,.aC,.aC] Y):aJ J (d+1) (.glob bx) (i::v1::ps) [] [] Q Y:=by
 refine x4 H.ok H.pk (builtins H.ok) (H.fn fw) (k:=jf J bx (yV dj)) rfl rfl (H.b4 fw) (args:=[i,v1]++ps) 6 ([(("self":Str),i),(("node":Str),v1),(("predecessors":Str),.tuple ps)]) (yk H.ok C (ps:=["self","node"]) (va:="predecessors") (a1:=[i,v1]) ?_) ?_ ?_;intro xs ys M;obtain⟨o,f,rfl⟩:=Vg M;obtain⟨P,A⟩:=H.hK;refine A.symm▸?_;induction ys<;>kernel_rfl;obtain⟨P,A⟩:=H.hK;delta jf;refine A.symm▸?_;kernel_rfl;have e:iY (jf J bx (yV dj)) (List.replicate 6 .aC) ([(("self":Str),i),(("node":Str),v1),(("predecessors":Str),.tuple ps)])=[i,v1,.tuple ps,.aC,.aC,.aC]:=by kernel_rfl
 exact e▸w
def iy(H:Hd J)(i:V)(ps:aw)(C:short ps=true)(w:wSs J pg d c5 (c7 Q) [i,.tuple ps,.aC,.aC,.aC,.aC,.aC,.aC] Y):aJ J (d+1) (.glob aV) (i::ps) [] [] Q Y:=by
 refine x4 H.ok H.pk (builtins H.ok) (H.fn b7) (k:=jf J aV (yV bE)) rfl rfl (H.b4 b7) (args:=[i]++ps) 8 ([(("self":Str),i),(("nodes":Str),.tuple ps)]) (yk H.ok C (ps:=["self"]) (va:="nodes") (a1:=[i]) ?_) ?_ ?_;intro xs ys M;obtain⟨o,rfl⟩:=Cr M;obtain⟨P,A⟩:=H.hK;refine A.symm▸?_;induction ys<;>kernel_rfl;obtain⟨P,A⟩:=H.hK;delta jf;refine A.symm▸?_;kernel_rfl;have e:iY (jf J aV (yV bE)) (List.replicate 8 .aC) ([(("self":Str),i),(("nodes":Str),.tuple ps)])=[i,.tuple ps,.aC,.aC,.aC,.aC,.aC,.aC]:=by kernel_rfl
 exact e▸w
def gZ(H:Hd J){X:Nat->Mem->Prop}(i:V)(ps:aw)(C:short ps=true)(w:wSs J pg d c5 (Ic Q X) [i,.tuple ps,.aC,.aC,.aC,.aC,.aC,.aC] Y):rb J (d+1) (.glob aV) (i::ps) Q X Y:=by
 refine Ae H.ok H.pk (builtins H.ok) (H.fn b7) (k:=jf J aV (yV bE)) rfl rfl (H.b4 b7) (args:=[i]++ps) 8 ([(("self":Str),i),(("nodes":Str),.tuple ps)]) (yk H.ok C (ps:=["self"]) (va:="nodes") (a1:=[i]) ?_) ?_ ?_;intro xs ys M;obtain⟨o,rfl⟩:=Cr M;obtain⟨P,A⟩:=H.hK;refine A.symm▸?_;induction ys<;>kernel_rfl;obtain⟨P,A⟩:=H.hK;delta jf;refine A.symm▸?_;kernel_rfl;have e:iY (jf J aV (yV bE)) (List.replicate 8 .aC) ([(("self":Str),i),(("nodes":Str),.tuple ps)])=[i,.tuple ps,.aC,.aC,.aC,.aC,.aC,.aC]:=by kernel_rfl
 exact e▸w
noncomputable def stN(K:Frag)(fa i:Nat):cM:=(bodyOf (fdOf K fa)).getD i (.Pass ⟨0,0,0,0⟩)
noncomputable abbrev cD(J:Cx):cM:=stN J.K a6 2
noncomputable abbrev sM:Str:="_law_lexer.<locals>._law_piece"
structure A9(J:Cx):Prop where
 hd:Hd J
 lx:∃mg,Au J mg 270 ⟨314,4,317,20⟩
 qn:J.qual=sM
 cl:∀kk fd,J.u5 kk fd↔kk=0/\∃a1 a2 c' uA doc pm,fd=fnX "_law_piece" sM (Kf (cD J)) (vZ (cD J)) (lP (cD J)) [(("text":Str),a1),(("gone":Str),a2)] .none .none doc pm none (.ref c') uA
def r6(H:A9 J){i:Nat}(s v1 v2:V)(hi:Y.f i= .u5 0 [v1,v2])(w:wSs J pg d eU (c7 Q) [s,v1,v2,.aC] Y):aJ J (d+1) (.ref i) [s] [] [] Q Y:=by
 have a:∀b,J.u5 0 b->IG b (lP (cD J)) (vZ (cD J)) ["text","gone"]:=by
  intro b h;obtain⟨D,a1,a2,G,z,doc,n,rfl⟩:=(H.cl 0 b).mp h;obtain⟨P,A⟩:=H.hd.hK;refine⟨rfl,?_,?_,rfl,rfl,rfl,?_,?_,rfl,by decide+kernel,?_⟩;unfold cD;rw[A];kernel_rfl;unfold cD;rw[A];kernel_rfl;unfold cD;rw[A];kernel_rfl;unfold cD;exact A▸ae (by kernel_rfl);intro x;have e:(lP (cD J)).names=[(("count":Str),.local),(("piece":Str),.local),(("gone":Str),.free),(("text":Str),.free),(("len":Str),.globalImplicit)]:=by unfold cD;rw[A];kernel_rfl
  rw[e];simp;exact or_comm
 refine IH H.hd.ok H.hd.pk (builtins H.hd.ok) a rfl (k:=⟨pg.G,(lP (cD J)).names,b8⟩) rfl rfl (ms:=eU) ?_ hi [.aC,v1,v2,.aC] [(("count":Str),s)] ?_ ?_ ?_ ?_;obtain⟨P,A⟩:=H.hd.hK;unfold cD;rw[A];kernel_rfl;intro x j v M N;have hm:(x,j)∈b8:=lookup_mem M;simp only[b8,aT,Prod.mk.injEq,ck,or_false]at hm;rcases hm with⟨rfl,rfl⟩|⟨rfl,rfl⟩|⟨rfl,rfl⟩|⟨rfl,rfl⟩
 left;exact aN N.symm
 right;exact⟨0,rfl,by exact N⟩
 right;exact⟨1,rfl,by exact N⟩
 left;exact aN N.symm
 intro b h;obtain⟨D,a1,a2,G,z,doc,n,rfl⟩:=(H.cl 0 b).mp h;refine sL H.hd.ok (λ xs ks=>[(("count":Str),xs.getD 0 .none)]) ?_ ?_;intro S xs ks M N;obtain⟨o,rfl⟩:=Cr M;cases len0 N;obtain⟨P,A⟩:=H.hd.hK;delta cD;refine A.symm▸?_;kernel_rfl;intro c h xs ks q U D;obtain⟨o,rfl⟩:=Cr q.length.symm;exact⟨rfl,q.1,trivial⟩;obtain⟨P,A⟩:=H.hd.hK;delta cD;rw[A];kernel_rfl;have e:iY ⟨pg.G,(lP (cD J)).names,b8⟩ [.aC,v1,v2,.aC] [(("count":Str),s)]=[s,v1,v2,.aC]:=by kernel_rfl
 exact e▸w
noncomputable def Nf:MS:= .assign [.var 1] (.call (.bT 32) [.lit .none] [] [])
noncomputable def Ng:MS:= .assign [.var 2] (.list true [])
def IX(H:A9 J):bodyOf (fdOf J.K a6)=[stN J.K a6 0,stN J.K a6 1,.FunctionDef "_law_piece" (Kf (cD J)) (vZ (cD J)) [] none [] (lP (cD J)) none "_law_piece" ⟨314,4,317,20⟩,.Assign [.Attribute (.Name "stream" ⟨318,4,318,10⟩) "read" ⟨318,4,318,15⟩] (.Name "_law_piece" ⟨318,18,318,28⟩) ⟨318,4,318,28⟩,.Return (some (.Call (.Name "_netrclex" ⟨319,11,319,20⟩) [.Name "stream" ⟨319,21,319,27⟩] [] ⟨319,11,319,28⟩)) ⟨319,4,319,28⟩]:=by obtain⟨P,A⟩:=H.hd.hK;delta cD;refine A.symm▸?_;kernel_rfl
def r7(H:A9 J)(i:V)(w:wS J pg d Nf (λ x B Y=>x= .next/\wS J pg d Ng (λ x B σ'=>x= .next/\OR J pg d 0 2 1 0 59 Q B σ') B Y) [i,.aC,.aC,.aC] Y):aJ J (d+1) (.glob a6) [i] [] [] Q Y:=by
 obtain⟨P,A⟩:=H.hd.hK;obtain⟨mg,a⟩:=H.lx;have F:=H.hd.fn yg;rw[IX H]at F;refine IL H.hd.ok H.hd.pk (builtins H.hd.ok) F a ?_ ?_ ?_ (n1:="text") (n2:="gone") (kk:=0) (j1:=0) (j2:=2) (js:=1) (Cn:=59) (gi:=32) ?_ ?_ ?_ ?_ ?_ ?_ ?_ ?_ ?_ (k:=jf J a6 (yV jS)) rfl rfl ?_ ?_ ?_ ?_ (t1:=Nf) (t2:=Ng) ?_ ?_ 4 [(("text":Str),i)] (sL H.hd.ok (λ xs ks=>[(("text":Str),xs.getD 0 .none)]) ?_ ?_) ?_ ?_;rw[A];kernel_rfl;unfold cD;rw[A];kernel_rfl;unfold cD;rw[A];kernel_rfl;intro L;rw[H.qn,A];kernel_rfl;intro L;unfold cD;rw[A];kernel_rfl;intro L a1 a2 M N;have b:(fEnv (fdOf J.K a6).scope [] L ((fdOf J.K a6).qualname++".<locals>.") a6 (fdOf J.K a6).code).cells.lookup ("text":Str)=some (L+1):=by rw[A];kernel_rfl
 have r:(fEnv (fdOf J.K a6).scope [] L ((fdOf J.K a6).qualname++".<locals>.") a6 (fdOf J.K a6).code).cells.lookup ("gone":Str)=some (L+1+1):=by rw[A];kernel_rfl
 rw[b]at M;rw[r]at N;obtain rfl:=aN M;obtain rfl:=aN N;unfold cD;rw[A];kernel_rfl;rw[A];kernel_rfl;rw[A];kernel_rfl;rw[A];kernel_rfl;rw[A];kernel_rfl;rw[A];kernel_rfl;intro a1 a2 G z doc;refine(H.cl 0 _).mpr ⟨rfl,a1,a2,G,z,doc,(mg "__name__").getD .none,?_⟩;rw[H.qn];kernel_rfl;kernel_rfl;kernel_rfl;kernel_rfl;unfold jf;rw[A];kernel_rfl;delta jf;refine A.symm▸?_;kernel_rfl;intro S xs ks M N;obtain⟨o,rfl⟩:=Cr M;cases len0 N;refine A.symm▸?_;kernel_rfl;intro c h xs ks q v D;obtain⟨o,rfl⟩:=Cr q.length.symm;exact⟨rfl,q.1,trivial⟩;delta jf;rw[A];kernel_rfl;have e:iY (jf J a6 (yV jS)) (List.replicate 4 .aC) [(("text":Str),i)]=[i,.aC,.aC,.aC]:=by kernel_rfl
 exact e▸w
noncomputable def Ct(K:Frag):cM:=stN K a6 2
noncomputable def FC(prog:Program)(w:World)(K:Frag)(y:Shared):Cx where
 prog:=prog
 w:=w
 K:=K
 h₀:=y.heap
 os:=y.os
 P:=266
 ps:= #[]
 line:=314
 col:=4
 qual:=sM
 u5:=λ kk x=>kk=0/\∃a1 a2 G z doc n,x=fnX "_law_piece" sM (Kf (Ct K)) (vZ (Ct K)) (lP (Ct K)) [(("text":Str),a1),(("gone":Str),a2)] .none .none doc n none (.ref G) z
noncomputable def O1:Mem:=⟨0,λ D=> .dead⟩
noncomputable def P4:Vw:=⟨λ D=>0,λ D=>[],[],[],[],O1⟩
def Nh(b:Addr):¬P4.T b:=λ⟨i,h,_⟩=>absurd h.1 (jW i)
def ofPys_ints:∀ns:List Int,ofPys (ns.map PyData.int)=ns.map WData.int
 |[]=>rfl|n::ns=>aF (WData.int n::·) (ofPys_ints ns)
def FD{P:Params}{a:Addr}{ns:List Int}(w:Well P h (.ref a) (ofPy (PyData.list (ns.map .int)))):∃f,SeqAt h "list" a f/\aA P4 h (ns.map V.int) f:=by
 have e:ofPy (PyData.list (ns.map .int))= .list (ns.map .int):=by refine(?_:WData.list (ofPys (ns.map .int))=_);rw[ofPys_ints]
 rw[e]at w;cases w with
 |list U g=>
  rename aI=>vs
  refine⟨vs,⟨0,U⟩,?_⟩;clear U e;induction ns generalizing vs with
  |nil=>cases g;trivial
  |cons n ns z=>cases g with
   |cons M N=>refine⟨?_,z N⟩;cases M;exact⟨_,rfl⟩
def LQ{prog:Program}{w:World}{y:Shared}{K:Frag}{mg mb:Str->Option Value}{fa a:Addr}{ns:List Int}(A:K=hp w.params)(k:K.In y.heap)(C:y.heap.get? 266=some (tabObj #[]))(z:y.heap.Ns mainGlobals mg)(f:y.heap.Ns builtinsNs mb)(g:∀x:Str,x≠"__name__"->mb x=bootBuiltins x)(bm:∃bm Q,mg "__builtins__"=some (.ref bm)/\bm≠builtinsNs/\y.heap.get? bm=some Q/\Q.cls= .type "module"/\Q.dict=some builtinsNs/\Q.data= .plain)(T:mg "law"=some (.ref fa))(I:y.gens= #[])(u:Well w.params y.heap (.ref a) (ofPy (PyData.list (ns.map .int))))(main:∀J,A9 J->aJ J 60 (.glob uJ) [.list (ns.map .int)] [] [] (λ v D=>v= .bool true) O1):codeAny (model prog w) callerA (.call (.ref fa) ⟨[.ref a],[]⟩) (λ r s'=>r= .ok (.ret (.bool true))/\OldK y.heap s'.heap/\s'.os=y.os/\s'.gens= #[]) y:=by
 have L:K.lookup 266=none:=by refine A.symm▸?_;kernel_rfl
 have nP:∀a o,K.lookup a=some o->a≠266:=λ a o h e=>by rw[e,L]at h;exact nn h
 have YC:fa=uJ:=by have:=mg_of (n:="law") (v:= .ref uJ) k z (by refine A.symm▸?_;kernel_rfl);rw[T]at this;cases this;rfl
 subst YC;have ok:bp (FC prog w K y):=⟨λ a o h=>⟨k a o h,nP a o h⟩,fz dD (b6 C),⟨{cls:= .none,data:= .dict #[] 0},by refine(?_:K.lookup 2=_);refine A.symm▸?_;kernel_rfl,rfl⟩⟩;have pk:cB (FC prog w K y) pg:=LM ok (mg:=mg) (mb:=mb) z f g (by refine(?_:(3:Nat)≠266);decide) (by refine(?_:(0:Nat)≠266);decide) (by refine(?_:(pg.G.all λ p=>IQ K p.1 p.2)=true);refine A.symm▸?_;kernel_rfl) (by refine(?_:pg.insts.all (instChk K)=true);refine A.symm▸?_;kernel_rfl)
  (by refine(?_:sy K pg.tB=true);refine A.symm▸?_;kernel_rfl) (by refine(?_:pg.meths.all (DC K)=true);refine A.symm▸?_;kernel_rfl) (by refine(?_:pg.Kr.all (Cq K)=true);refine A.symm▸?_;kernel_rfl)
 have hd:Hd (FC prog w K y):=⟨⟨w.params,A⟩,ok,pk⟩;have d:Au (FC prog w K y) mg 270 ⟨314,4,317,20⟩:=by
  refine⟨λ c s R=>⟨?_,?_,?_⟩,trivial,rfl,rfl,rfl,by refine(?_:(3:Nat)≠266);decide⟩;obtain⟨o,es,ep,m,r⟩:=z;exact⟨o,es,ep,R.base _ _ m (by refine(?_:(3:Nat)≠266);decide),r⟩;obtain⟨b,Q,M,N,l,E,h5,q⟩:=bm;have n1:b≠mainGlobals:=λ e=>by obtain⟨o,es,ep,m,yR,D⟩:=z;rw[e,m]at l;obtain rfl:=aN l;rw[yR]at q;cases q
  have n2:b≠266:=λ e=>by rw[e,C]at l;obtain rfl:=aN l;cases q
  exact⟨b,Q,M,N,n1,n2,R.base _ _ l n2,E,h5,q⟩;exact codeHd_of_K (R.K ok) (by refine(?_:codeHdIn K 270 266=true);refine A.symm▸?_;kernel_rfl)
 have H:A9 (FC prog w K y):=⟨hd,⟨mg,d⟩,rfl,λ kk fd=>Iff.rfl⟩;have R:Rel (FC prog w K y) P4 y:=
  {base:=λ b o e D=>e,tab:= .inl C,lT:=⟨_,C,rfl⟩,size:=ah _,obj:=λ i hi=>absurd hi (jW i),apart:=λ i j hi=>absurd hi.1 (jW i),high:=λ b t=>absurd t (Nh b),
   oD:=(λ b U=>by exact absurd U ck),d5:=(λ b U=>by exact absurd U ck),d6:=(λ b U=>by exact absurd U ck),gens:=I,os:=rfl}
 obtain⟨aM,hs,hv⟩:=FD u;have nN:¬P4.N a:=by rintro(t|t|t);exact Nh a t;exact absurd t ck;exact absurd t ck
 have sk:xe callerA P4:=⟨[],rfl,λ e he=>by exact absurd he ck⟩;have rm:jK 60 callerA:=⟨rfl,by refine(?_:1+claimMargin+8*60<800);decide,by decide⟩;obtain⟨D,ev⟩:=main _ H callerA P4 y (.ref uJ) [.ref a] [] rm sk rfl R rfl ⟨⟨a,aM,rfl,hs,nN,hv⟩,trivial⟩ trivial;refine codeAny_mono ev λ r s' hr=> ?_;obtain⟨x,c',v,rfl,S,G,rfl⟩:=hr;have G:x= .bool true:=G;subst G;refine⟨rfl,⟨λ b o e=> ?_,λ b o e=> ?_⟩,S.rel.os,S.rel.gens⟩;by_cases U:b=266;subst U;rcases S.rel.tab with t|⟨c₂,hc,t,D⟩
 left;rw[C]at e;obtain rfl:=aN e;exact t
 right;left
 rw[C]at e;obtain rfl:=aN e;obtain⟨o,vs,D,D,D,D,D,D,D,M,N,l,E,D⟩:=codeHd_of_K (c:=270) (P:=266) k (by refine A.symm▸?_;kernel_rfl);exact⟨⟨270,o,vs,M,N,l,E⟩,rfl,#[],_,rfl,t⟩
 left;exact S.rel.base b o e U
 by_cases U:b=266;subst U;rcases S.rel.tab with t|⟨c₂,hc,t,D⟩;exact⟨_,t⟩;exact⟨_,t⟩;exact⟨o,S.rel.base b o e U⟩
def aB{α:Sort _}{Q:α->Prop}(K:α)(k:Q K):Q K:=k
section
def Ev(J:Cx)(d:Nat)(e:ME)(B:aw)(Y:Mem)(v:V):Prop:=∀K:fA,K v Y->wE J pg d e K B Y
def Th(J:Cx)(d:Nat)(e:ME)(B:aw)(Y:Mem)(v:V)(σ':Mem):Prop:=∀K:fA,K v σ'->wE J pg d e K B Y
def cF(J:Cx)(d:Nat)(es:List ME)(B:aw)(Y:Mem)(vs:aw):Prop:=∀K:aw->Mem->Prop,K vs Y->wEs J pg d es K B Y
def cz{α:Type}{x:Option α}{a:α}{Q:α->Prop}(h:x=some a)(k:Q a):opt x Q:=by exact h▸k
def Ev.bin{e:Operator}{a b:ME}{va vb v:V}(C:Ev J d a B Y va)(U:Ev J d b B Y vb)(h:lV Y e va vb=some v):Ev J d (.bin e a b) B Y v:=λ K k=>C _ (U _ (cz h k))
def Ev.cmp{e:CmpOp}{a b:ME}{va vb:V}{q:Bool}(C:Ev J d a B Y va)(U:Ev J d b B Y vb)(h:qm Y e va vb=some q):Ev J d (.cmp e a b) B Y (.bool q):=λ K k=>C _ (U _ (cz h k))
def Ev.sub{a b:ME}{va vb v:V}(C:Ev J d a B Y va)(U:Ev J d b B Y vb)(h:iQ Y va vb=some v):Ev J d (.sub a b) B Y v:=λ K k=>C _ (U _ (cz h k))
def Ev.zu{a:ME}{va:V}{q:Bool}(C:Ev J d a B Y va)(h:cQ Y va=some q):Ev J d (.zu a) B Y (.bool (!q)):=λ K k=>C _ (cz h k)
def Cu{e:ME}{K:fA}{v:V}(he:Ev J d e B Y v)(k:K v Y):wE J pg d e K B Y:=he _ k
def nx(J:Cx)(d:Nat)(r:List MS)(Q:Fl->aw->Mem->Prop):Fl->aw->Mem->Prop:=λ i B Y=>match i with
 | .next=>wSs J pg d r Q B Y|i=>Q i B Y
variable{r:List MS}{Q:Fl->aw->Mem->Prop}
def et{st:MS}(h:wS J pg d st (nx J d r Q) B Y):wSs J pg d (st::r) Q B Y:=h
def ei(h:wSs J pg d r Q B Y):wSs J pg d [] (nx J d r Q) B Y:=h
def wR(h:wSs J pg d r Q B Y):wSs J pg d [] (nx J d [] (nx J d r Q)) B Y:=h
def bW{i:Nat}{e:ME}{v:V}(he:Ev J d e B Y v)(h:wSs J pg d r Q (B.set i v) Y):wSs J pg d (.assign [.var i] e::r) Q B Y:=he _ h
def r8{i:Nat}{e:ME}{v:V}{σ':Mem}(he:Th J d e B Y v σ')(h:wSs J pg d r Q (B.set i v) σ'):wSs J pg d (.assign [.var i] e::r) Q B Y:=he _ h
def LR{t:ME}{a b:List MS}(v:V)(q:Bool)(I:Ev J d t B Y v)(n:cQ Y v=some q)(M:q=true->wSs J pg d a (nx J d r Q) B Y)(N:q=false->wSs J pg d b (nx J d r Q) B Y):wSs J pg d (.dC t a b::r) Q B Y:=I _ (cz n (by induction q;exact N rfl;exact M rfl))
def ot{t:ME}{a b:List MS}(q:Bool)(I:Ev J d t B Y (.bool q))(M:q=true->wSs J pg d a (nx J d r Q) B Y)(N:q=false->wSs J pg d b (nx J d r Q) B Y):wSs J pg d (.dC t a b::r) Q B Y:=LR _ q I rfl M N
def RN{a b:Nat}(e:((a:Int)==(b:Int))=true):a=b:=Int.ofNat.inj (bc e)
def O2{a b:Nat}(e:((a:Int)==(b:Int))=false):a≠b:=λ h=>ne_of_beq_false e (aF Int.ofNat h)
def LS{a b:Nat}(e:decide ((a:Int)<=(b:Int))=true):a<=b:=gb.mp (ae e)
def O3{a b:Nat}(e:decide ((a:Int)<=(b:Int))=false):b<a:=Nat.lt_of_not_le λ h=>of_decide_eq_false e (gb.mpr h)
def pC{s t:ME}{a b:List MS}{x n:Nat}(H:Ev J d s B Y (.int (x:Int)))(I:Ev J d t B Y (.int (n:Int)))(M:x=n->wSs J pg d a (nx J d r Q) B Y)(N:x≠n->wSs J pg d b (nx J d r Q) B Y):wSs J pg d (.dC (.cmp .Eq s t) a b::r) Q B Y:=ot _ (.cmp H I rfl) (λ e=>M (RN e)) λ e=>N (O2 e)
def AA{α:Type}{step:V->(Fl->aw->Mem->Prop)->aw->Mem->Prop}{g:Mem->Prop}{Q:Fl->aw->Mem->Prop}(e:α->V)(I:List α->aw->Mem->Prop)(U:∀rest B Y,I rest B Y->g Y)(H:∀a rest B Y(K:Fl->aw->Mem->Prop),I (a::rest) B Y->(∀v σ',I rest v σ'->K .next v σ'/\K .cont v σ')->step (e a) K B Y)(he:∀B Y,I [] B Y->Q .next B Y)(l:List α):∀B Y,I l B Y->forLoop step g (l.map e) Q B Y:=by induction l with
 |nil=>exact λ B Y h=>⟨U _ _ _ h,he _ _ h⟩|cons a l z=>exact λ B Y h=>⟨U _ _ _ h,H a l B Y _ h λ v σ' h'=>⟨z v σ' h',z v σ' h'⟩⟩
def pD{α:Type}(e:α->V){i:Nat}{it:ME}{body:List MS}{vi:V}{l:List α}{g:Mem->Prop}(hit:Ev J d it B Y vi)(L:jx Y vi=some (false,l.map e,g))(I:List α->aw->Mem->Prop)(q:I l B Y)(U:∀rest B Y,I rest B Y->g Y)(H:∀a rest B Y(K:Fl->aw->Mem->Prop),I (a::rest) B Y->(∀k σ',I rest k σ'->K .next k σ'/\K .cont k σ')->wSs J pg d body K (B.set i (e a)) Y)(he:∀B Y,I [] B Y->wSs J pg d r Q B Y):wSs J pg d (.ir [i] it body::r) Q B Y:=hit _ (cz L (AA (step:=λ v K B Y=>opt (lX false [i] v B) λ k=>wSs J pg d body K k Y) (Q:=nx J d r Q) e I U H he l B Y q))
inductive Turn(J:Cx)(d:Nat)(t:ME)(body yS r:List MS)(Q:Fl->aw->Mem->Prop)(I:Nat->aw->Mem->Prop)(n:Nat)(B:aw)(Y:Mem):Prop where
 |mk (v:V) (q:Bool) (h1:Ev J d t B Y v) (hv:cQ Y v=some q) (h2:q=true->∀K:Fl->aw->Mem->Prop,(∀m bj σ',m<n->I m bj σ'->K .next bj σ'/\K .cont bj σ')->(∀bj σ',wSs J pg d r Q bj σ'->K .brk bj σ')->wSs J pg d body K B Y) (h3:q=false->wSs J pg d yS (MF (nx J d r Q)) B Y):Turn J d t body yS r Q I n B Y
def yl{t:ME}{body e:List MS}(I:Nat->aw->Mem->Prop)(n:Nat)(o:I n B Y)(H:∀n B Y,I n B Y->Turn J d t body e r Q I n B Y):wSs J pg d (.gq t body e::r) Q B Y:=et ⟨I,n,o,λ n B Y h=>by
  obtain⟨v,q,M,p,N,j⟩:=H n B Y h
  refine M _ (cz p ?_)
  induction q with
  |true=>exact N rfl _ (λ m i σ' hm hi=>⟨⟨m,hm,hi⟩,⟨m,hm,hi⟩⟩) λ i σ' w=>w|false=>exact j rfl⟩
def fy{α I:Type}(f:α->I)(l:List α):l.flatMap (λ a=>[f a])=l.map f:=by induction l with
 |nil=>rfl|cons a l z=>refine List.flatMap_cons.symm▸z.symm▸?_;rfl
def eu{α:Type}{step:V->(aw->Mem->Prop)->Mem->Prop}{g:Mem->Prop}{K:aw->Mem->Prop}(e:α->V)(f:α->aw)(J:Mem->Prop)(U:∀Y,J Y->g Y)(l:List α):∀(acc:aw)(Y:Mem),(∀a∈l,∀(K:aw->Mem->Prop) Y,J Y->(∀σ',J σ'->K (f a) σ')->step (e a) K Y)->J Y->(acc++l.flatMap f).length<=100000->(∀σ',J σ'->K (acc++l.flatMap f) σ')->compLoop step g (l.map e) K acc Y:=by induction l with
 |nil=>exact λ acc Y D j D k=>⟨U Y j,by have:=k Y j;rw[List.flatMap_nil,dw]at this;exact this⟩|cons a l z=>intro acc Y H j I k;refine⟨U Y j,af (aa (by exact bH▸av _ _) I),H a (.head _) _ Y j λ σ' N=> ?_⟩;rw[List.flatMap_cons,<-hZ]at I k;exact z _ σ' (λ b M=>H b (.tail _ M)) N I k
def kA{mt:Bool}{elt it:ME}{u:aj}{tests:List ME}{Q:fA}{vi:V}{x:Bool×aw×(Mem->Prop)}(hit:Ev J d it B Y vi)(L:jx Y vi=some x)(h:compLoop (λ v K Y=>opt (lX x.1 u v B) λ i=>wTs J pg d tests (λ b Y=>match b with
    |true=>wE J pg d elt (λ r Y=>K [r] Y) i Y|false=>K [] Y) i Y) x.2.2 x.2.1 (λ E Y=>short E=true/\match mt with
     |false=>Q (.list E) Y|true=>Q (.ref Y.n) (Y.alloc (.list E))) [] Y):wE J pg d (.comp mt elt u it tests) Q B Y:=hit _ (cz L h)
def ym{α:Type}(e:α->V){elt:ME}{i:Nat}{it:ME}{vi:V}{l:List α}{g:Mem->Prop}{Q:fA}(hit:Ev J d it B Y vi)(L:jx Y vi=some (false,l.map e,g))(f:α->V)(b:Mem->Prop)(o:b Y)(U:∀Y,b Y->g Y)(H:∀a∈l,∀(K:fA) Y,b Y->(∀σ',b σ'->K (f a) σ')->wE J pg d elt K (B.set i (e a)) Y)(I:l.length<=100000)(x:∀σ',b σ'->Q (.list (l.map f)) σ'):wE J pg d (.comp false elt [i] it []) Q B Y:=by
 have I:(l.map f).length<=100000:=by rw[a7];exact I
 refine kA hit L (eu e (λ a=>[f a]) b U l [] Y (λ a C K Y j k=>H a C (λ r Y=>K [r] Y) Y j k) o ?_ λ σ' N=> ?_);rw[iM,fy];exact I;rw[iM,fy];exact⟨af I,x σ' N⟩
def DE{α:Type}(e:α->V){elt:ME}{i:Nat}{it:ME}{vi:V}{l:List α}{g:Mem->Prop}{Q:fA}(hit:Ev J d it B Y vi)(L:jx Y vi=some (false,l.map e,g))(f:α->V)(U:g Y)(H:∀a∈l,Ev J d elt (B.set i (e a)) Y (f a))(I:l.length<=100000)(x:Q (.list (l.map f)) Y):wE J pg d (.comp false elt [i] it []) Q B Y:=ym e hit L f (·=Y) rfl (λ D j=>j▸U) (λ a C K D j k=>j▸H a C K (k _ rfl)) I λ D j=>j▸x
def Ext(Y σ':Mem):Prop:=Y.n<=σ'.n/\∀i,i<Y.n->σ'.f i=Y.f i
def Ext.refl(Y:Mem):Ext Y Y:=⟨ah _,λ D D=>rfl⟩
def Ext.trans{Y σ' u:Mem}(a:Ext Y σ')(b:Ext σ' u):Ext Y u:=⟨aa a.1 b.1,λ i h=>(b.2 i (ai h a.1)).trans (a.2 i h)⟩
def Ext.alloc(Y:Mem)(o:O):Ext Y (Y.alloc o):=⟨bR _,λ i h=>au (az h)⟩
def Ext.set{Y σ':Mem}(e:Ext Y σ'){i:Nat}(hi:Y.n<=i)(o:O):Ext Y (σ'.set i o):=⟨e.1,λ j h=>(au (az (ai h hi))).trans (e.2 j h)⟩
def Ext.jV{Y σ':Mem}(e:Ext Y σ')(o:O):Ext Y (σ'.alloc o):=e.trans (.alloc _ _)
def Mem.aR(Y:Mem)(a:Nat)(o:O):(Y.set a o).f a=o:=ar rfl
def Mem.fT(Y:Mem){a b:Nat}(o:O)(h:b≠a):(Y.set a o).f b=Y.f b:=au h
def Mem.aY(Y:Mem)(o:O):(Y.alloc o).f Y.n=o:=ar rfl
def Mem.cA(Y:Mem){b:Nat}(o:O)(h:b≠Y.n):(Y.alloc o).f b=Y.f b:=au h
def aZ{a b:Nat}{o:O}(h:a≠b){v:O}(n:Y.f a=v):(Y.set b o).f a=v:=(Mem.fT _ _ h).trans n
def i7{o v:O}{b:Nat}(n:Y.f b=v)(h:b≠Y.n):(Y.alloc o).f b=v:=(Mem.cA Y o h).trans n
def YD(J:Cx)(d:Nat)(e:ME)(B:aw)(Y:Mem)(v:V):Prop:=∀K:fA,(∀σ',Ext Y σ'->K v σ')->wE J pg d e K B Y
def O4{i:Nat}{e:ME}{v:V}(he:YD J d e B Y v)(h:∀σ',Ext Y σ'->wSs J pg d r Q (B.set i v) σ'):wSs J pg d (.assign [.var i] e::r) Q B Y:=he _ h
def cF.cons{e:ME}{es:List ME}{v:V}{vs:aw}(H:e.isStar=false)(he:Ev J d e B Y v)(h:cF J d es B Y vs):cF J d (e::es) B Y (v::vs):=by intro K k;have h:=h (λ ws Y=>K (v::ws) Y) k;cases e with
 |star a=>exact nf H.symm|_=>exact he _ h
def cF.one{e:ME}{v:V}(H:e.isStar=false)(he:Ev J d e B Y v):cF J d [e] B Y [v]:= .cons H he λ K k=>k
def kZ{f v:V}{args:aw}{Q:fA}{σ':Mem}(h:d8 Y f args=some (v,σ'))(k:Q v σ'):tC f args [] Q Y:=by refine(?_:(match d8 Y f args with|some (v,σ')=>Q v σ'|none=>False));exact h▸k
noncomputable def WT(v:V):Bool:=match v with
 | .glob _=>false| .ref _=>false
 |_=>true
def c8{b:V}{ws:aw}{K:fA}{σ':Mem}{v:V}(U:WT b=true)(n:d8 Y b ws=some (v,σ'))(k:K v σ'):fM J d b ws [] [] K Y:=by have key:=kZ n k;induction b using vC<;>first|exact nf U|exact key
def pE{f e:ME}{b w v:V}(hf:Ev J d f B Y b)(U:WT b=true)(he:cF J d [e] B Y [w])(n:d8 Y b [w]=some (v,Y)):Ev J d (.call f [e] [] []) B Y v:=λ K k=>hf _ (he _ (c8 U n k))
def Vi{a:Nat}{vs:aw}{v:V}(I:Y.f a= .list vs)(H:vs.length<=100000):d8 Y (.bm .jm) [.ref a,v]=some (.none,Y.set a (.list (vs++[v]))):=by refine(?_:(match Y.f a with| .list vs=>if short vs then _ else none|_=>none)=_);exact I▸ar (af H)
def DF{o e:ME}{σ':Mem}{a:Nat}{vs:aw}{v:V}(m:Ev J d o B Y (.ref a))(I:Y.f a= .list vs)(p:σ'.f a= .list vs)(H:vs.length<=100000)(he:∀K:aw->Mem->Prop,K [v] σ'->wEs J pg d [e] K B Y)(h:wSs J pg d r Q B (σ'.set a (.list (vs++[v])))):wSs J pg d (.expr (.a9 o 0 [e])::r) Q B Y:=m _ (cz (aF (j7 pg · (.ref a) 0) I) (he _ (kZ (Vi p H) h)))
def dJ{o e:ME}{a:Nat}{vs:aw}{v:V}(m:Ev J d o B Y (.ref a))(I:Y.f a= .list vs)(H:vs.length<=100000)(he:cF J d [e] B Y [v])(h:wSs J pg d r Q B (Y.set a (.list (vs++[v])))):wSs J pg d (.expr (.a9 o 0 [e])::r) Q B Y:=DF m I I H he h
def AB{e:ME}{v:V}{n:Nat}(he:Ev J d e B Y v)(M:e.isStar=false)(h:Ku Y v=some n)(I:n<=1000000):Ev J d (.call (.bT 24) [e] [] []) B Y (.int (n:Int)):=λ K k=>cF.one M he _ (kZ (by
 refine(?_:(match Ku Y v with|some n=>if decide (n<=1000000)then _ else none|none=>none)=_)
 exact h▸ar (af I)) k)
def my{o:ME}{m:Nat}{args:List ME}{K:fA}{v:V}{x:V×aw}(w:Ev J d o B Y v)(hm:kP pg Y v m=some x)(h:wEs J pg d args (λ vs Y=>fM J d x.1 (x.2++vs) [] [] K Y) B Y):wE J pg d (.a9 o m args) K B Y:=w _ (cz hm h)
def IY{v:V}{Q:V->Prop}(i:v≠.aC)(q:Q v):got v Q:=by cases v<;>first|exact q|exact absurd rfl i
def gQ{o:ME}{k i C:Nat}{as:List (Nat×V)}{w:V}(m:Ev J d o B Y (.ref i))(hi:Y.f i= .inst C as)(I:pg.insts.contains C=true)(g:as.lookup k=some w)(v:w≠.aC):Ev J d (.attr o k) B Y w:=λ K q=>m _ (by
 refine(?_:(match Y.f i with| .inst C as=>_|_=>False))
 exact hi▸⟨I,cz g (IY v q)⟩)
def IZ{i:Nat}{vs:aw}(h:Y.f i= .list vs)(I:vs.length<=1000000):cQ Y (.ref i)=some (!vs.isEmpty):=by refine(?_:(match(Y.f i).eI with|some vs=>if decide (vs.length<=1000000)then some (!vs.isEmpty)else none|none=>none)=_);exact h▸ar (af I)
def qK{i:Nat}{v:V}(h:B[i]? =some v)(a:v≠.aC):Ev J d (.var i) B Y v:=λ K k=>by refine(?_:got (B.getD i .aC) _);refine(jX).symm▸h.symm▸?_;exact IY a k
def O5{e:ME}{v:V}(he:Ev J d e B Y v)(h:Q (.ret v) B Y):wSs J pg d (.ret e::r) Q B Y:=he _ h
def LU{t:ME}(I:Ev J d t B Y (.bool true))(h:wSs J pg d r Q B Y):wSs J pg d (.jw t::r) Q B Y:=I _ ⟨rfl,h⟩
def kB{a:Nat}(C:a<2^64):small (a:Int)=true:=af (by rw[Int.natAbs_natCast];exact C)
def FE{a k:Nat}(C:a<2^64)(u:k<=1000):lV Y .LShift (.int (a:Int)) (.int (k:Int))=some (.int ((a*2^k:Nat):Int)):=by refine(?_:(if decide ((0:Int)<=k)&&(decide ((k:Int)<=1000)&&small a)then some ((a:Int)*2^(k:Int).toNat)else none).map V.int=_);refine(kB C).symm▸(af (dN k)).symm▸(af (show(k:Int)<=1000 from gb.mpr u)).symm▸?_;refine(?_:some (V.int ((a:Int)*2^k))=_);rw[Int.natCast_mul,Int.natCast_pow];rfl
def O6{a k:Nat}:lV Y .RShift (.int (a:Int)) (.int (k:Int))=some (.int ((a/2^k:Nat):Int)):=by refine(?_:(if decide ((0:Int)<=k)then some ((a:Int).fdiv (2^(k:Int).toNat))else none).map V.int=_);refine(af (dN k)).symm▸?_;refine(?_:some (V.int ((a:Int).fdiv (2^k)))=_);rw[Int.fdiv_eq_ediv_of_nonneg _ (Int.pow_nonneg dD),Int.natCast_ediv,Int.natCast_pow];rfl
def wU{a b:Nat}:lV Y .BitAnd (.int (a:Int)) (.int (b:Int))=some (.int ((a&&&b:Nat):Int)):=by refine(?_:(if decide ((0:Int)<=a)&&decide ((0:Int)<=b)then some (((a:Int).toNat&&&(b:Int).toNat:Nat):Int)else none).map V.int=_);refine(af (dN a)).symm▸(af (dN b)).symm▸?_;rfl
def LV{a b:Nat}:lV Y .BitOr (.int (a:Int)) (.int (b:Int))=some (.int ((a|||b:Nat):Int)):=by refine(?_:(if decide ((0:Int)<=a)&&decide ((0:Int)<=b)then some (((a:Int).toNat|||(b:Int).toNat:Nat):Int)else none).map V.int=_);refine(af (dN a)).symm▸(af (dN b)).symm▸?_;rfl
def I0{a b:Nat}(h:b<=a):lV Y .Sub (.int (a:Int)) (.int (b:Int))=some (.int ((a-b:Nat):Int)):=aF (λ i=>some (V.int i)) (Int.ofNat_sub h).symm
end
def Ev.I1{a b:ME}{va vb:V}{o e:Bool}(C:Ev J d a B Y va)(M:cQ Y va=some o)(U:Ev J d b B Y vb)(N:cQ Y vb=some e):Ev J d (.xr [a,b]) B Y (.bool (o&&e)):=λ K k=>C _ (cz M (by
  induction o with
  |false=>exact k|true=>exact U _ (cz N (by induction e<;>exact k))))
noncomputable def b5(c:Nat):Nat:=if 65<=c/\c<=90 then c-65 else if 97<=c/\c<=122 then c-71 else if 48<=c/\c<=57 then c+4 else if c=43 then 62 else if c=47 then 63 else 64
def Ev.qp{a b e:ME}{x c:CmpOp}{va vb s:V}{o h:Bool}(C:Ev J d a B Y va)(U:Ev J d b B Y vb)(M:qm Y x va vb=some o)(he:Ev J d e B Y s)(N:qm Y c vb s=some h):Ev J d (.qp a x b c e) B Y (.bool (o&&h)):=λ K k=>C _ (U _ (cz M (by
  induction o with
  |false=>exact k|true=>exact he _ (cz N k))))
def I2{s t u:ME}{a b r:List MS}{Q:Fl->aw->Mem->Prop}{c lo hi:Nat}(C:Ev J d s B Y (.int (lo:Int)))(U:Ev J d t B Y (.int (c:Int)))(he:Ev J d u B Y (.int (hi:Int)))(M:lo<=c/\c<=hi->wSs J pg d a (nx J d r Q) B Y)(N:¬(lo<=c/\c<=hi)->wSs J pg d b (nx J d r Q) B Y):wSs J pg d (.dC (.qp s .LtE t .LtE u) a b::r) Q B Y:=ot (decide ((lo:Int)<=(c:Int))&&decide ((c:Int)<=(hi:Int))) (.qp C U rfl he rfl) (λ e=>M ⟨LS (ao e).1,LS (ao e).2⟩) λ e=>N λ p=>by rw[af (gb.mpr p.1),af (gb.mpr p.2)]at e;exact absurd e dD
def vK(H:Hd J)(c:Nat)(h:Q (.int (b5 c:Nat)) Y):aJ J (d+1) (.glob pw) [.int (c:Int)] [] [] Q Y:=by apply rX H _;have lit:∀(n:Nat),Ev J d (.lit (.int (n:Int))) [.int (c:Int)] Y (.int (n:Int)):=λ n K k=>k;have var:Ev J d (.var 0) [.int (c:Int)] Y (.int (c:Int)):=λ K k=>k;have fin:∀{i:Int},((b5 c:Nat):Int)=i->Q (.int i) Y:=λ e=>e▸h;refine I2 (lit 65) var (lit 90) (λ p=> ?_) (λ n1=> ?_);exact fin ((aF _ (ar p:b5 c=c-65)).trans (Int.ofNat_sub p.1));refine I2 (lit 97) var (lit 122) (λ p=> ?_) (λ n2=> ?_);exact fin ((aF _ ((au n1).trans (ar p):b5 c=c-71)).trans (Int.ofNat_sub (aa dD p.1)));refine I2 (lit 48) var (lit 57) (λ p=> ?_) (λ U=> ?_);exact fin (aF _ ((au n1).trans ((au n2).trans (ar p)):b5 c=c+4));refine pC var (lit 43) (λ p=> ?_) (λ A=> ?_);exact fin (aF _ ((au n1).trans ((au n2).trans ((au U).trans (ar p))):b5 c=62));refine pC var (lit 47) (λ p=> ?_) (λ T=> ?_);exact fin (aF _ ((au n1).trans ((au n2).trans ((au U).trans ((au A).trans (ar p)))):b5 c=63));exact fin (aF _ ((au n1).trans ((au n2).trans ((au U).trans ((au A).trans (au T)))):b5 c=64))
def wV(H:Hd J)(b:Bool)(h:Q (.bool b) Y):aJ J (d+1) (.glob Aw) [.bool b] [] [] Q Y:=by apply Ax H _;induction b<;>exact h
def Cv(H:Hd J)(b:aj)(h:Q (.bytes b) Y):aJ J (d+1) (.glob wQ) [.bytes b] [] [] Q Y:=yd H _ h
def qL(H:Hd J)(b:aj)(h:Q (.bytes b) Y):aJ J (d+1) (.glob ly) [.bytes b] [] [] Q Y:=om H _ h
def AD(H:Hd J)(b:aj)(C:ascii b=true)(z:b.length<=100000)(h:Q (.bytes b) Y):aJ J (d+1) (.glob eF) [.str b] [] [] Q Y:=by apply gX H _;refine kZ (Y:=Y) (f:= .bm .ie) (args:=[.str b,.str [97,115,99,105,105]]) ?_ h;refine(?_:(if isAscii [97,115,99,105,105]&&ascii b&&short b then _ else none)=_);rw[C,show short b=true from af z];rfl
structure A2 where
 out:aj
 q:Nat
 left:Nat
 r9:Nat
noncomputable def mR(s:A2)(c:Nat):A2:=if c=61 then{s with r9:=s.r9+1}else if 64<=b5 c then s else match s.q with
 |0=>⟨s.out,1,b5 c,0⟩|1=>⟨s.out++[s.left*2^2|||b5 c/2^4],2,b5 c&&&15,0⟩
 |2=>⟨s.out++[s.left*2^4|||b5 c/2^2],3,b5 c&&&3,0⟩|_=>⟨s.out++[s.left*2^6|||b5 c],0,0,0⟩
noncomputable abbrev nums(l:aj):aw:=l.map λ(k:Nat)=>V.int (k:Int)
noncomputable def Ti(Y:Mem)(l:aj)(s:A2)(i:Nat)(v:V):aw:=[.bytes l,.bool false,.bytes l,.ref Y.n,.int (s.q:Int),.int (s.left:Int),.int (s.r9:Int),.int (i:Int),v]
inductive WU(Y:Mem)(l:aj)(fin:A2)(bs:aj)(B:aw)(σ':Mem):Prop where
 |mk (s:A2) (i:Nat) (v:V) (hf:bs.foldl mR s=fin) (hl:s.left<64) (ho:s.out.length+bs.length<=100000) (hr:B=Ti Y l s i v) (ex:Ext Y σ') (out:σ'.f Y.n= .list (nums s.out)) (hn:Y.n<σ'.n):WU Y l fin bs B σ'
def RO(a:Nat):a&&&15<64:=bt Nat.and_le_right dD
def Vj(a:Nat):a&&&3<64:=bt Nat.and_le_right dD
def kC(l:aj)(k:Nat):nums l++[V.int (k:Int)]=nums (l++[k]):=(eG (f:=λ k:Nat=>V.int (k:Int)) (l₁:=l) (l₂:=[k])).symm
def bh(l:aj):(nums l).length=l.length:=a7 _
def mz(l:aj):intsOf (nums l)=some (l.map λ k:Nat=>(k:Int)):=by induction l with
 |nil=>rfl|cons k l z=>exact aF (Option.map ((k:Int)::·)) z
def O7{v:V}{l:aj}(I:bD Y v=some (nums l))(H:l.length<=100000)(U:∀k∈l,k<256):d8 Y (.ty .bytes) [v]=some (.bytes l,Y):=by refine(?_:(match bD Y v with|some vs=>(match intsOf vs with|some is=>if short is&&is.all (λ i=>decide (0<=i)&&decide (i<256))then some (V.bytes (is.map Int.toNat),Y)else none|none=>none)|none=>none)=_);rw[I];refine(?_:(match intsOf (nums l)with|some is=>if short is&&is.all (λ i=>decide (0<=i)&&decide (i<256))then some (V.bytes (is.map Int.toNat),Y)else none|none=>none)=_);rw[mz];refine(ar (jI (af (by rw[a7];exact H)) (fE.mpr λ i hi=> ?_))).trans (aF (λ l=>some (V.bytes l,Y)) ?_);obtain⟨k,u,rfl⟩:=bV.mp hi;exact jI (af (dN k)) (af (oH.mpr (U k u)));rw[fo];exact List.map_id _
def Cw{a:Nat}{l:aj}(I:Y.f a= .list (nums l))(H:l.length<=100000)(U:∀k∈l,k<256):d8 Y (.ty .bytes) [.ref a]=some (.bytes l,Y):=O7 (aF O.eI I) H U
def RP{s:A2}{b:Nat}(U:b≠61)(M:¬64<=b5 b)(Q:s.q≠0)(N:s.q≠1)(G:s.q≠2):mR s b=⟨s.out++[s.left*2^6|||b5 b],0,0,0⟩:=by
 obtain⟨o,q,e,p⟩:=s;refine(au U).trans ((au M).trans ?_)
 match q,Q,N,G with
 |0,h,_,_=>exact absurd rfl h|1,_,h,_=>exact absurd rfl h
 |2,_,_,h=>exact absurd rfl h|_+3,_,_,_=>rfl
def vL(H:Hd J)(l:aj)(f:l.length<=50000)(z:(l.foldl mR ⟨[],0,0,0⟩).q≠1)(hp:(l.foldl mR ⟨[],0,0,0⟩).q=0\/4<=(l.foldl mR ⟨[],0,0,0⟩).q+(l.foldl mR ⟨[],0,0,0⟩).r9)(m:∀k∈(l.foldl mR ⟨[],0,0,0⟩).out,k<256)(h:∀σ',Ext Y σ'->Q (.bytes (l.foldl mR ⟨[],0,0,0⟩).out) σ'):aJ J (d+2) (.glob pz) [.bytes l] ["strict_mode"] [.bool false] Q Y:=by
 obtain⟨fin,y⟩:∃fin,l.foldl mR ⟨[],0,0,0⟩=fin:=⟨_,rfl⟩;rw[y]at z hp m h;apply rY H _ _;refine bW (v:= .bytes l) (λ K k=>qL H l k) ?_;refine bW (v:= .bool false) (λ K k=>wV H false k) ?_;refine r8 (v:= .ref Y.n) (σ':=Y.alloc (.list [])) aB ?_;refine bW (v:= .int 0) aB (bW (v:= .int 0) aB (bW (v:= .int 0) aB (bW (v:= .int 0) aB ?_)));refine pD (λ k:Nat=>V.int (k:Int)) (vi:= .bytes l) aB rfl (WU Y l fin) ⟨⟨[],0,0,0⟩,0,.aC,y,by decide,by rw[List.length_nil,dy];exact aa f dD,rfl,.alloc _ _,Mem.aY _ _,bz _⟩ (λ D D D D=>trivial) ?_ ?_;rintro b bs B r K ⟨s,i,j,hf,M,hlen,rfl,ex,c,p⟩ k;have hlen:s.out.length+1+bs.length<=100000:=aa (bO (fD _ 1 _)) hlen;have hf:bs.foldl mR (mR s b)=fin:=hf;have I:(nums s.out).length<=100000:=by rw[bh];exact aa (aa (bR _) (av _ _)) hlen
 have E:s.out.length+bs.length<=100000:=aa (eH (bR _) _) hlen;have big:∀{x:Nat},x<64->x<2^64:=λ h=>ai h dD;refine(?_:wSs J pg (d+1) _ K (Ti Y l s i (.int (b:Int))) r);refine pC (n:=61) aB aB (λ U=> ?_) (λ U=> ?_);refine bW (v:= .int ((s.r9+1:Nat):Int)) aB ?_;have done:=(k _ _ ⟨{s with r9:=s.r9+1},i+1,.int (b:Int),by rw[<-hf];exact aF (List.foldl mR · bs) (ar U).symm,M,E,rfl,ex,c,p⟩).2;refine ot (decide ((2:Int)<=(s.q:Int))&&decide ((s.q:Int)+((s.r9+1:Nat):Int)<=4)) (Ev.I1 (Ev.cmp aB aB rfl) rfl (Ev.cmp (Ev.bin aB aB rfl) aB rfl) rfl) (λ e=>done) (λ e=> ?_);exact ot (!false) (Ev.zu (va:= .bool false) (q:=false) aB rfl) (λ e=>done) nt;refine bW (v:= .int (b5 b:Nat)) (λ K k=>vK H b k) ?_;refine ot (decide (((64:Nat):Int)<=((b5 b:Nat):Int))) (Ev.cmp aB aB rfl) (λ e=> ?_) (λ e=> ?_);refine ot false aB nf (λ e'=> ?_);exact(k _ _ ⟨s,i+1,.int (b5 b:Nat),by rw[<-hf];exact aF (List.foldl mR · bs) ((au U).trans (ar (LS e))).symm,M,E,rfl,ex,c,p⟩).2;have N:=fB.mpr (O3 e);refine ot (((s.r9:Int)!=0)&&false) (Ev.I1 (va:= .int (s.r9:Int)) aB rfl (vb:= .bool false) aB rfl) (λ e=>nf ((ao e).2)) (λ D=> ?_);refine bW (v:= .int 0) aB ?_;have done:∀(s':A2),mR s b=s'->s'.left<64->∀T,s'.out.length<=s.out.length+1->Ext Y T->T.f Y.n= .list (nums s'.out)->Y.n<T.n->K .next (Ti Y l s' (i+1) (.int (b5 b:Nat))) T:=λ s' G o T g w e5 e6=>(k _ _ ⟨s',i+1,_,by rw[<-G];exact hf,o,aa (eH g _) hlen,rfl,w,e5,e6⟩).1
 have A:∀{x q u:Nat},mR s b=⟨s.out++[x],q,u,0⟩->u<64->K .next (Ti Y l ⟨s.out++[x],q,u,0⟩ (i+1) (.int (b5 b:Nat))) (r.set Y.n (.list (nums s.out++[.int (x:Int)]))):=λ G o=>done _ G o _ (by exact bH▸ah _) (ex.set (ah _) _) ((Mem.aR _ _ _).trans (aF O.list (kC _ _))) p
 refine pC (x:=s.q) (n:=0) aB aB (λ t=> ?_) (λ t=> ?_);exact done ⟨s.out,1,b5 b,0⟩ ((au U).trans ((au N).trans (by rw[t];rfl))) (O3 e) r (bR _) ex c p;refine pC (x:=s.q) (n:=1) aB aB (λ L=> ?_) (λ L=> ?_);refine bW (v:= .int 2) aB ?_;refine dJ (a:=Y.n) aB c I (v:= .int ((s.left*2^2|||b5 b/2^4:Nat):Int)) (cF.one rfl (Ev.bin (Ev.bin (vb:= .int ((2:Nat):Int)) aB aB (FE (big M) dD)) (Ev.bin (vb:= .int ((4:Nat):Int)) aB aB O6) LV)) ?_;refine bW (v:= .int ((b5 b&&&15:Nat):Int)) (Ev.bin (vb:= .int ((15:Nat):Int)) aB aB wU) ?_;exact A (q:=2) ((au U).trans ((au N).trans (by rw[L];rfl))) (RO _);refine pC (x:=s.q) (n:=2) aB aB (λ C=> ?_) (λ C=> ?_);refine bW (v:= .int 3) aB ?_;refine dJ (a:=Y.n) aB c I (v:= .int ((s.left*2^4|||b5 b/2^2:Nat):Int)) (cF.one rfl (Ev.bin (Ev.bin (vb:= .int ((4:Nat):Int)) aB aB (FE (big M) dD)) (Ev.bin (vb:= .int ((2:Nat):Int)) aB aB O6) LV)) ?_;refine bW (v:= .int ((b5 b&&&3:Nat):Int)) (Ev.bin (vb:= .int ((3:Nat):Int)) aB aB wU) ?_;exact A (q:=3) ((au U).trans ((au N).trans (by rw[C];rfl))) (Vj _);refine bW (v:= .int 0) aB ?_;refine dJ (a:=Y.n) aB c I (v:= .int ((s.left*2^6|||b5 b:Nat):Int)) (cF.one rfl (Ev.bin (Ev.bin (vb:= .int ((6:Nat):Int)) aB aB (FE (big M) dD)) aB LV)) ?_;exact A (q:=0) (RP U N t L C) dD;rintro B r ⟨s,i,j,rfl,M,hlen,rfl,ex,c,p⟩;refine pC (x:=s.q) (n:=1) aB aB (λ e=>absurd e z) (λ e=> ?_);refine ot ((!((s.q:Int)==0))&&decide ((s.q:Int)+(s.r9:Int)<4)) (Ev.I1 (Ev.cmp aB aB rfl) rfl (Ev.cmp (Ev.bin aB aB rfl) aB rfl) rfl) (λ e=> ?_) (λ e=> ?_);exact absurd hp (not_or.mpr ⟨O2 (jJ (ao e).1),fB.mpr (oH.mp (ae (ao e).2))⟩);exact kZ (Cw c hlen m) (h _ ex)
noncomputable abbrev FF:aj:=[65,66,67,68,69,70,71,72,73,74,75,76,77,78,79,80,81,82,83,84,85,86,87,88,89,90,97,98,99,100,101,102,103,104,105,106,107,108,109,110,111,112,113,114,115,116,117,118,119,120,121,122,48,49,50,51,52,53,54,55,56,57,43,47]
noncomputable def ou(i:Nat):Nat:=FF.getD i 0
def uK{k:Nat}(u:k<64):iQ Y (.bytes FF) (.int (k:Int))=some (.int (ou k:Nat)):=by refine(ar (e:=none) (jI rfl (af (dN k)))).trans ?_;refine(?_:(FF[k]?).map (λ(k:Nat)=>V.int (k:Int))=_);rw[gN u,ou,jX,gN u];rfl
structure B2 where
 out:aj
 bits:Nat
 left:Nat
noncomputable def wW(s:B2):B2:=⟨s.out++[ou (s.left/2^(s.bits-6)&&&63)],s.bits-6,s.left⟩
noncomputable def oy:Nat->B2->B2
 |0,s=>s|k+1,s=>if 6<=s.bits then oy k (wW s)else s
noncomputable def P5(s:B2)(b:Nat):B2:=oy 2 ⟨s.out,s.bits+8,(s.left*2^8|||b)&&&65535⟩
noncomputable def J8(s:B2):aj:=if s.bits=2 then s.out++[ou ((s.left&&&3)*2^4),61,61]else if s.bits=4 then s.out++[ou ((s.left&&&15)*2^2),61]else s.out
noncomputable def yn(l:aj):aj:=J8 (l.foldl P5 ⟨[],0,0⟩)
def rJ(k:Nat)(s:B2)(h:s.bits<6):oy k s=s:=by induction k with
 |zero=>rfl|succ k=>exact au (fB.mpr h)
def gJ{α:Type}(l:List α)(a:α):(l++[a]).length=l.length+1:=bH
def yo(k:Nat):ou k<128:=by by_cases h:k<64;exact(by decide+kernel:∀k:Fin 64,ou k<128) ⟨k,h⟩;rw[ou,jX,sX (Nat.le_of_not_lt h)];decide
def pH{α:Type}{F:List α}{f:α}:f∈F++[f]:=sW _ (.head _)
def eM{α:Type}{F:List α}{f x:α}{P:Prop}(h:x∈F++[f])(M:x∈F->P)(N:x=f->P):P:=(bK.mp h).elim M λ h=>N (bX.mp h)
def qM{l:aj}{a:Nat}(h:l.Nodup)(C:∀x∈l,x≠a):(l++[a]).Nodup:=List.nodup_append.mpr ⟨h,List.pairwise_singleton _ _,λ x L y T=>bX.mp T▸C x L⟩
def DH{α:Type}{l:List α}{a:α}{P:α->Prop}(h:∀x∈l,P x)(C:P a):∀x∈l++[a],P x:=λ x L=>eM L (h x) λ e=>e▸C
structure Vk(k n:Nat)(s:B2):Prop where
 b:s.bits<6
 c:∀c∈s.out,c<128
 l:s.out.length<=n+k
def FG(k:Nat):∀(s:B2),s.bits<6*(k+1)->(∀c∈s.out,c<128)->Vk k s.out.length (oy k s):=by induction k with
 |zero=>exact λ s h w=>⟨h,w,ah _⟩|succ k z=>intro s h w;by_cases t:6<=s.bits;have:=z (wW s) (Nat.sub_lt_left_of_lt_add t (by rw[eO];exact h)) (DH w (yo _));exact(show oy (k+1) s=oy k (wW s) from ar t)▸⟨this.b,this.c,aa this.l (bO (by rw[wW,gJ,fC,eO 1 k]))⟩;refine(rJ _ s (Nat.lt_of_not_le t)).symm▸?_;exact⟨Nat.lt_of_not_le t,w,av _ _⟩
def O8(s:B2)(b:Nat)(h:s.bits<6)(w:∀c∈s.out,c<128):Vk 2 s.out.length (P5 s b):=FG 2 ⟨s.out,s.bits+8,(s.left*2^8|||b)&&&65535⟩ (ai (Bc h 8) dD) w
def O9(s:B2)(h:∀c∈s.out,c<128):∀c∈J8 s,c<128:=by delta J8;by_cases N:s.bits=2;exact ar N▸List.forall_mem_append.mpr ⟨h,sZ.mpr ⟨yo _,by decide⟩⟩;refine(au N).symm▸?_;by_cases C:s.bits=4;exact ar C▸List.forall_mem_append.mpr ⟨h,sZ.mpr ⟨yo _,by decide⟩⟩;exact au C▸h
def AE(l:aj):∀{s:B2},s.bits<6->(∀c∈s.out,c<128)->Vk (2*l.length) s.out.length (l.foldl P5 s):=by induction l with
 |nil=>exact λ M N=>⟨M,N,ah _⟩|cons b l z=>intro s M N;have e:=O8 s b M N;have i:=z e.b e.c;exact⟨i.b,i.c,aa i.l (aa (eH e.l _) (bO (by rw[fC,eO 2];rfl)))⟩
def DI(l:aj):∀c∈yn l,c<128:=O9 _ (AE l (s:=⟨[],0,0⟩) dD mN).c
def DJ(s:B2):(J8 s).length<=s.out.length+3:=by delta J8;by_cases N:s.bits=2;rw[ar N,bH];exact ah _;refine(au N).symm▸?_;by_cases C:s.bits=4;refine(ar C).symm▸bH.symm▸?_;exact bR _;exact au C▸av _ _
def I5(l:aj):(yn l).length<=2*l.length+3:=aa (DJ _) (eH (aa (AE l (s:=⟨[],0,0⟩) dD mN).l (bO (dy _))) 3)
noncomputable def Tj(Y:Mem)(l:aj)(s:B2)(v:V):aw:=[.bytes l,.bool false,.bytes l,.ref Y.n,.int (s.bits:Int),.int (s.left:Int),v]
inductive WV(Y:Mem)(l:aj)(fin:B2)(bs:aj)(B:aw)(σ':Mem):Prop where
 |mk (s:B2) (v:V) (hf:bs.foldl P5 s=fin) (hb:s.bits<6) (hl:s.left<=65535) (ho:s.out.length+2*bs.length<=90000) (Vl:∀b∈bs,b<256) (hr:B=Tj Y l s v) (ex:Ext Y σ') (out:σ'.f Y.n= .list (nums s.out)) (hn:Y.n<σ'.n):WV Y l fin bs B σ'
inductive WW(Y:Mem)(l:aj)(s:B2)(b:Nat)(n:Nat)(B:aw)(σ':Mem):Prop where
 |mk (j:Nat) (s':B2) (hn:n=s'.bits) (he:oy j s'=P5 s b) (hb:s'.bits<6*(j+1)) (hl:s'.left<=65535) (ho:s'.out.length+j<=s.out.length+2) (hr:B=Tj Y l s' (.int (b:Int))) (ex:Ext Y σ') (out:σ'.f Y.n= .list (nums s'.out)) (hs:Y.n<σ'.n):WW Y l s b n B σ'
def vM(H:Hd J)(l:aj)(hl:l.length<=40000)(hb:∀b∈l,b<256)(h:∀σ',Ext Y σ'->Q (.bytes (yn l)) σ'):aJ J (d+2) (.glob pA) [.bytes l] ["newline"] [.bool false] Q Y:=by
 obtain⟨fin,o⟩:∃fin,l.foldl P5 ⟨[],0,0⟩=fin:=⟨_,rfl⟩;have Vm:yn l=J8 fin:=by skip;exact o.symm▸rfl
 have I:=DI l;rw[Vm]at h I;apply rZ H _ _;refine bW (v:= .bytes l) (λ K k=>Cv H l k) ?_;refine bW (v:= .bool false) (λ K k=>wV H false k) ?_;refine r8 (v:= .ref Y.n) (σ':=Y.alloc (.list [])) aB ?_;refine bW (v:= .int 0) aB (bW (v:= .int 0) aB ?_);refine pD (λ k:Nat=>V.int (k:Int)) (vi:= .bytes l) aB rfl (WV Y l fin) ⟨⟨[],0,0⟩,.aC,o,by decide,by decide,by rw[List.length_nil,dy];exact aa (iH 2 hl) dD,hb,rfl,.alloc _ _,Mem.aY _ _,bz _⟩ (λ D D D D=>trivial) ?_ ?_;rintro b bs B aX K ⟨s,t,hf,i,G,hlen,L,rfl,ex,e,T⟩ k;have hlen:s.out.length+2+2*bs.length<=90000:=aa (bO (by rw[fC,eO 2];rfl)) hlen;refine bW (v:= .int ((s.left*2^8|||b)&&&65535:Nat)) (Ev.bin (vb:= .int ((65535:Nat):Int)) (Ev.bin (Ev.bin (vb:= .int ((8:Nat):Int)) aB aB (FE (bt G dD) dD)) aB LV) aB wU) ?_;refine bW (v:= .int ((s.bits+8:Nat):Int)) aB ?_;refine yl (WW Y l s b) (s.bits+8) ⟨2,⟨s.out,s.bits+8,(s.left*2^8|||b)&&&65535⟩,rfl,rfl,ai (Bc i 8) dD,Nat.and_le_right,ah _,rfl,ex,e,T⟩ ?_;rintro n B p ⟨j,s',rfl,he,E,A,M,rfl,f,g,m⟩;refine⟨.bool (decide (((6:Nat):Int)<=(s'.bits:Int))),_,Ev.cmp aB aB rfl,rfl,λ q K k1 k2=> ?_,λ q=> ?_⟩;have U:6<=s'.bits:=LS q;induction j with
 |zero=>exact absurd E (aD U)|succ j=>have SY:Ev J (d+1) (.bin .Sub (.var 4) (.lit (.int 6))) (Tj Y l s' (.int (b:Int))) p (.int ((s'.bits-6:Nat):Int)):=Ev.bin (va:= .int (s'.bits:Int)) (vb:= .int ((6:Nat):Int)) aB aB (I0 U);refine dJ (a:=Y.n) aB g (by rw[bh];exact aa (av _ _) (aa M (aa (av _ _) (aa hlen dD)))) (cF.one rfl (Ev.sub (va:= .bytes FF) aB (Ev.bin (vb:= .int ((63:Nat):Int)) (Ev.bin aB SY O6) aB wU) (uK (bt Nat.and_le_right dD)))) ?_;refine bW (v:= .int ((s'.bits-6:Nat):Int)) (Ev.bin (va:= .int (s'.bits:Int)) (vb:= .int ((6:Nat):Int)) aB aB (I0 U)) ?_;exact(k1 (s'.bits-6) _ _ (Nat.sub_lt (ai dD U) dD) ⟨j,wW s',rfl,(ar U).symm.trans he,Nat.sub_lt_left_of_lt_add U (by rw[eO];exact E),A,aa (bO (by rw[wW,gJ,fC,eO 1 j])) M,rfl,f.set (ah _) _,(Mem.aR _ _ _).trans (aF O.list (kC _ _)),m⟩).1
 have U:s'.bits<6:=O3 q;rw[rJ j s' U]at he;exact(k _ _ ⟨s',.int (b:Int),by refine he.symm▸?_;exact hf,U,A,aa (eH (aa (av _ _) M) _) hlen,λ c hc=>L c (.tail _ hc),rfl,f,g,m⟩).1;rintro B aX ⟨s,t,rfl,i,G,hlen,L,rfl,ex,e,T⟩;have w:s.out.length<=90000:=hlen;have C:(nums s.out).length<=90000:=by rw[bh];exact w
 have z:∀{n:Nat}{vs:aw}(v:V),vs.length<=n->(vs++[v]).length<=n+1:=λ v h=>by rw[gJ];exact gK h
 have last:∀p,Ext Y p->p.f Y.n= .list (nums (J8 s))->wSs J pg (d+1) [.dC (.var 1) [.expr (.a9 (.var 3) 0 [.lit (.int 10)])] [],.ret (.call (.bT 5) [.var 3] [] [])] (c7 Q) (Tj Y l s t) p:=λ p RQ ho=>ot false aB nf (λ D=>kZ (Cw ho (aa (DJ s) (aa (eH w 3) dD)) λ k u=>fz (I k u) dD) (h _ RQ));refine pC (x:=s.bits) (n:=2) aB aB (λ N=> ?_) (λ N=> ?_);have r:s.left&&&3<=3:=Nat.and_le_right;have u:(s.left&&&3)*2^4<64:=bt (Nat.mul_le_mul_right _ r) dD;refine dJ (a:=Y.n) aB e (aa C dD) (cF.one rfl (Ev.sub (va:= .bytes FF) aB (Ev.bin (vb:= .int ((4:Nat):Int)) (Ev.bin (vb:= .int ((3:Nat):Int)) aB aB wU) aB (FE (bt r dD) dD)) (uK u))) ?_;refine dJ (a:=Y.n) (v:= .int 61) aB (Mem.aR _ _ _) (aa (z _ C) dD) aB ?_;refine dJ (a:=Y.n) (v:= .int 61) aB (Mem.aR _ _ _) (aa (z _ (z _ C)) dD) aB ?_;refine last _ (((ex.set (ah _) _).set (ah _) _).set (ah _) _) ((Mem.aR _ _ _).trans (aF O.list ?_));rw[show J8 s=s.out++[ou ((s.left&&&3)*2^4),61,61] from ar N,nums,nums,eG,hZ,hZ];rfl;refine pC (x:=s.bits) (n:=4) aB aB (λ y=> ?_) (λ y=> ?_);have r:s.left&&&15<=15:=Nat.and_le_right;have u:(s.left&&&15)*2^2<64:=bt (Nat.mul_le_mul_right _ r) dD;refine dJ (a:=Y.n) aB e (aa C dD) (cF.one rfl (Ev.sub (va:= .bytes FF) aB (Ev.bin (vb:= .int ((2:Nat):Int)) (Ev.bin (vb:= .int ((15:Nat):Int)) aB aB wU) aB (FE (bt r dD) dD)) (uK u))) ?_;refine dJ (a:=Y.n) (v:= .int 61) aB (Mem.aR _ _ _) (aa (z _ C) dD) aB ?_;refine last _ ((ex.set (ah _) _).set (ah _) _) ((Mem.aR _ _ _).trans (aF O.list ?_));rw[show J8 s=s.out++[ou ((s.left&&&15)*2^2),61] from(au N).trans (ar y),nums,nums,eG,hZ];rfl;exact last _ ex (e.trans (aF (λ l=>O.list (nums l)) ((au N).trans (au y):J8 s=s.out).symm))
noncomputable def sw(p s:Nat)(c:Nat):Nat:=if c=43 then p else if c=47 then s else c
noncomputable def enc(p s:Nat)(l:aj):aj:=(yn l).map (sw p s)
def Cy(a b:aj)(k:Nat)(u:k<256):(gr a b).getD k 0=((a.zip b).reverse.lookup k).getD k:=by unfold gr;rw[jX,gL,List.getElem?_range u];rfl
def LX{x y v w k:Nat}:([(x,v),(y,w)].lookup k).getD k=if k=x then v else if k=y then w else k:=by rw[fm];by_cases a:k=x;rw[ar a,cZ.mpr a];rfl;rw[au a,iN a,fm];by_cases d:k=y;rw[ar d,cZ.mpr d];rfl;rw[au d,iN d];rfl
def FH{p s:Nat}{l:aj}(h:∀c∈l,c<128):nS (gr [43,47] [p,s]) l=l.map (sw p s):=vW λ c w=>by rw[Cy _ _ _ (fz (h c w) dD)];apply LX.trans;unfold sw;by_cases a:c=43;rw[ar a,au (by rw[a];decide),ar a];rw[au a,au a]
def Cz(a b:aj):(gr a b).length=256:=(a7 _).trans eB
def CA{a1 a2 b1 b2:Nat}:d8 Y (.bm .dg) [.bytes [a1,a2],.bytes [b1,b2]]=some (.bytes (gr [a1,a2] [b1,b2]),Y):=rfl
def CB{l a b:aj}(I:l.length<=100000):d8 Y (.bm .d4) [.bytes l,.bytes (gr a b)]=some (.bytes (nS (gr a b) l),Y):=ar (jI (af (Cz a b)) (af I))
def Ev.trans{x i mb:ME}{l:aj}{a1 a2 b1 b2:Nat}(L:Ev J d x B Y (.bytes l))(C:cF J d [i,mb] B Y [.bytes [a1,a2],.bytes [b1,b2]])(I:l.length<=100000):Ev J d (.a9 x 9 [.a9 (.bT 5) 11 [i,mb]]) B Y (.bytes (nS (gr [a1,a2] [b1,b2]) l)):=λ K k=>L _ (C _ (c8 rfl CA (c8 (J:=J) (d:=d) rfl (CB I) k)))
def yq(H:Hd J)(l:aj)(p s:Nat)(I:l.length<=40000)(U:∀b∈l,b<256)(h:∀σ',Ext Y σ'->Q (.bytes (enc p s l)) σ'):aJ J (d+3) (.glob mm) [.bytes l,.bytes [p,s]] [] [] Q Y:=by apply uB H _ _;refine O4 (v:= .bytes (yn l)) (λ K k=>vM H l I U k) λ σ' ex=> ?_;refine ot true (Ev.cmp aB aB rfl) (λ D=> ?_) (λ e=>nt e);refine LU (Ev.cmp (va:= .int 2) (vb:= .int 2) aB aB rfl) ?_;refine O5 (Ev.trans (l:=yn l) (a1:=43) (a2:=47) (b1:=p) (b2:=s) aB aB (aa (I5 l) (aa (eH (iH 2 I) 3) dD))) ?_;rw[FH (DI l)];exact h σ' ex
noncomputable def dec(s:aj):A2:=s.foldl mR ⟨[],0,0,0⟩
def yr(H:Hd J)(s l:aj)(C:s.length<=50000)(z:∀c∈s,c<128)(o:(dec s).q≠1)(hp:(dec s).q=0\/4<=(dec s).q+(dec s).r9)(m:(dec s).out=l)(U:∀b∈l,b<256)(h:∀σ',Ext Y σ'->Q (.bytes l) σ'):aJ J (d+3) (.glob mq) [.str s] [] [] Q Y:=by
 have p:ascii s=true:=by unfold ascii;rw[fE];exact λ c w=>af (z c w)
 apply uC H _;refine bW (v:= .bytes s) (λ K k=>AD H s p (aa C dD) k) ?_;refine ot false (Ev.cmp aB aB rfl) (λ e=>nf e) (λ D=> ?_);subst m;exact vL H _ C o hp U h
structure Lx where
 il:Nat
 is:Nat
 ic:Nat
 ig:Nat
 ip:Nat
 text:aj
def Lx.has(L:Lx)(i:Nat):Prop:=i=L.il\/i=L.is\/i=L.ic\/i=L.ig\/i=L.ip
noncomputable abbrev J9:aj:=[10,9,13,32]
noncomputable def Ka(t:aj)(k:Nat):Int:=((1+(t.take k).count 10:Nat):Int)
structure cU(Y:Mem)(L:Lx)(k:Nat)(pb:aw):Prop where
 l:Y.f L.il= .inst 59 [(0,.int (Ka L.text k)),(1,.ref L.is),(2,.str J9),(3,.ref L.ip)]
 s:∃ln:Int,∃q,Y.f L.is= .inst 59 [(0,.int ln),(1,.none),(2,.str J9),(3,.ref q),(4,.ref L.ic)]
 c:Y.f L.ic= .u5 0 [.str L.text,.ref L.ig]
 g:∃g:aw,Y.f L.ig= .list g/\g.length=k
 p:Y.f L.ip= .list pb
 lt:∀i,L.has i->i<Y.n
 ne:L.ig≠L.ip
 nl:L.il≠L.is
 len:L.text.length<=1000
 kl:k<=L.text.length
def AF(L:Lx)(Y σ':Mem):Prop:=Y.n<=σ'.n/\∀i,i<Y.n->i≠L.il->i≠L.ig->σ'.f i=Y.f i
def AF.trans{L:Lx}{Y σ' u:Mem}(a:AF L Y σ')(b:AF L σ' u):AF L Y u:=⟨aa a.1 b.1,λ i h M N=>(b.2 i (ai h a.1) M N).trans (a.2 i h M N)⟩
def cU.keep{Y σ':Mem}{L:Lx}{k:Nat}{t:aw}(h:cU Y L k t)(T:Y.n<=σ'.n)(u:∀i,L.has i->σ'.f i=Y.f i):cU σ' L k t:=by obtain⟨l,⟨D,D,s⟩,c,⟨D,g,a⟩,p,lt,ne,d,len,w⟩:=h;exact⟨(u _ (.inl rfl)).trans l,⟨_,_,(u _ (.inr (.inl rfl))).trans s⟩,(u _ (.inr (.inr (.inl rfl)))).trans c,⟨_,(u _ (.inr (.inr (.inr (.inl rfl))))).trans g,a⟩,(u _ (.inr (.inr (.inr (.inr rfl))))).trans p,λ i hi=>ai (lt i hi) T,ne,d,len,w⟩
def cU.off{L:Lx}{k:Nat}{t:aw}(h:cU Y L k t){j:Nat}(l:¬L.has j)(o:O):cU (Y.set j o) L k t:=h.keep (ah _) λ i hi=>Mem.fT _ _ λ e=>l (e▸hi)
def cU.Vp{L:Lx}{k:Nat}{d:aw}(h:cU Y L k d){j:Nat}{fa:Nat}{v:V}(t:Y.f j= .dZ fa v):¬L.has j:=λ hi=>by obtain⟨l,⟨D,D,s⟩,c,⟨D,g,D⟩,p,D⟩:=h;rcases hi with rfl|rfl|rfl|rfl|rfl;exact nomatch l.symm.trans t;exact nomatch s.symm.trans t;exact nomatch c.symm.trans t;exact nomatch g.symm.trans t;exact nomatch p.symm.trans t
def cU.oz{Y σ':Mem}{L:Lx}{k:Nat}{l:aw}(h:cU Y L k l)(ch:AF L Y σ'){j fa:Nat}{v:V}(t:Y.f j= .dZ fa v)(p:j<Y.n):σ'.f j= .dZ fa v:=(ch.2 j p (λ e=>h.Vp t (.inl e)) (λ e=>h.Vp t (.inr (.inr (.inr (.inl e)))))).trans t
def sN(n k:Nat):clipAt n (k:Int)=min k n:=by refine(?_:(max (0:Int) (min (if(k:Int)<0 then(k:Int)+(n:Int)else(k:Int)) (n:Int))).toNat=_);refine(au (Int.not_lt.mpr (dN k))).symm▸?_;by_cases h:k<=n;refine(Int.min_eq_left (gb.mpr h)).symm▸(Nat.min_eq_left h).symm▸(Int.max_eq_right (dN k)).symm▸?_;rfl;have h:=Nat.le_of_not_le h;refine(Int.min_eq_right (gb.mpr h)).symm▸(Nat.min_eq_right h).symm▸(Int.max_eq_right (dN n)).symm▸?_;rfl
def yt{α:Type}{l:List α}{k n:Nat}(h:k<=l.length):cg l (some (k:Int)) (some ((k:Int)+(n:Int)))=(l.drop k).take n:=by refine(?_:(l.drop (clipAt l.length (k:Int))).take (clipAt l.length ((k+n:Nat):Int)-clipAt l.length (k:Int))=_);rw[sN,sN,Nat.min_eq_left h];by_cases N:k+n<=l.length;rw[Nat.min_eq_left N,Nat.add_sub_cancel_left];have N:=Nat.le_of_not_le N;exact(Nat.min_eq_right N).symm▸(lM (bO fk)).symm▸(lM (by rw[fk];exact Nat.sub_le_iff_le_add'.mpr N)).symm▸rfl
noncomputable abbrev chars(l:aj):aw:=l.map λ k=> .str [k]
def mS(l:aj):(l.take 1).length<=1:=by exact List.length_take▸Nat.min_le_left _ _
def AG(H:A9 J){i M n:Nat}{text:aj}{g:aw}(hi:Y.f i= .u5 0 [.str text,.ref M])(U:Y.f M= .list g)(I:text.length<=1000)(a:g.length<=text.length)(h:Q (.str ((text.drop g.length).take n)) (Y.set M (.list (g++chars ((text.drop g.length).take n))))):aJ J (d+1) (.ref i) [.int (n:Int)] [] [] Q Y:=by apply r6 H _ _ _ hi;have r:=aa a I;have hlen:Ev J d (.call (.bT 24) [.var 2] [] []) [.int (n:Int),.str text,.ref M,.aC] Y (.int (g.length:Int)):=AB (v:= .ref M) aB rfl (aF Kt U) (aa r dD);refine bW (v:= .str ((text.drop g.length).take n)) (λ K k=> ?_) ?_;skip;apply hlen _;refine Cu (Ev.bin (vb:= .int (n:Int)) hlen aB rfl) ?_;refine(?_:opt (qo Y (.str text) (some (g.length:Int)) (some ((g.length:Int)+(n:Int)))) _);exact(cz ((ar (e:=none) (af (aa I dD))).trans (aF (λ l=>some (V.str l)) (yt a))) k);refine et (cz (aF (j7 pg · (.ref M) 2) U) ?_);refine c8 (J:=J) (d:=d) (v:= .none) (b:= .bm .jo) (ws:=[.ref M,.str ((text.drop g.length).take n)]) rfl ?_ h;refine(?_:(match Y.f M with| .list vs=>if short vs&&short ((text.drop g.length).take n)then _ else none|_=>none)=_);exact U▸ar (jI (af (aa r dD)) (af (aa (List.length_take_le' ..) (by refine fk.symm▸?_;exact aa (iK _ _) (aa I dD)))))
def FI{D:aj}(h:10∈D.take 1):D.take 1=[10]:=by induction D with
 |nil=>exact absurd h ck|cons c r=>exact aF (λ x=>[x]) (bX.mp h).symm
def pI(H:A9 J){L:Lx}{k:Nat}{t:aw}(o:cU Y L k t)(h:∀σ',cU σ' L (k+((L.text.drop k).take 1).length) t->AF L Y σ'->σ'.n=Y.n->Q (.str ((L.text.drop k).take 1)) σ'):aJ J (d+2) (.glob bg) [.ref L.il] [] [] Q Y:=by
 obtain⟨l,⟨ln2,q,s⟩,c,⟨g,U,A⟩,p,lt,ne,r,len,j⟩:=o;apply jg H.hd _;have n1:L.il≠L.ig:=λ e=>nomatch(e▸l).symm.trans U;have n2:L.is≠L.ig:=λ e=>nomatch(e▸s).symm.trans U;have M:L.ic≠L.ig:=λ e=>nomatch(e▸c).symm.trans U;have v:L.ic≠L.il:=λ e=>nomatch(e▸c).symm.trans l;have a:L.ip≠L.il:=λ e=>nomatch(e▸p).symm.trans l;obtain⟨w,T⟩:∃w,(L.text.drop k).take 1=w:=⟨_,rfl⟩;have b:Ka L.text (k+w.length)=Ka L.text k+(w.count 10:Nat):=by delta Ka;rw[List.take_add,List.count_append,show(L.text.drop k).take w.length=w by refine T▸?_;induction L.text.drop k<;>rfl,<-fC];rfl
 rw[T]at h;have G:k+w.length<=L.text.length:=by refine T▸List.length_take.symm▸fk.symm▸?_;exact aa (mY (Nat.min_le_right _ _) k) (bO (oK j))
 have I:(g++chars w).length=k+w.length:=by rw[bH,a7,A]
 have u:w.count 10=0->cU (Y.set L.ig (.list (g++chars w))) L (k+w.length) t:=λ e=>⟨by refine b.symm▸e.symm▸?_;exact aZ n1 (l.trans (by rw[show((0:Nat):Int)=0 from rfl,Int.add_zero])),⟨ln2,q,aZ n2 s⟩,aZ M c,⟨g++chars w,Mem.aR _ _ _,I⟩,aZ ne.symm p,lt,ne,r,len,G⟩;have z:w.count 10=1->cU (((Y.set L.ig (.list (g++chars w)))).set L.il (.inst 59 [(0,.int (Ka L.text k+1)),(1,.ref L.is),(2,.str J9),(3,.ref L.ip)])) L (k+w.length) t:=λ e=>⟨by refine b.symm▸e.symm▸?_;exact Mem.aR _ _ _,⟨ln2,q,aZ r.symm (aZ n2 s)⟩,aZ v (aZ M c),⟨g++chars w,aZ n1.symm (Mem.aR _ _ _),I⟩,aZ a (aZ ne.symm p),lt,ne,r,len,G⟩;have y:Ev J (d+1) (.attr (.var 0) 1) [.ref L.il,.aC] Y (.ref L.is):=gQ aB l rfl rfl vn;have E:Th J (d+1) (.a9 (.attr (.var 0) 1) 12 [.lit (.int 1)]) [.ref L.il,.aC] Y (.str w) (Y.set L.ig (.list (g++chars w))):=λ K k=>my (x:=(.ref L.ic,[])) y (aF (j7 pg · (.ref L.is) 12) s) (by
  apply AG (n:=1) H c U len (aa (bO A) j)
  refine A.symm▸T.symm▸?_
  exact k)
 apply r8 E;refine ot (w==[10]) (Ev.cmp aB aB rfl) (λ e=> ?_) (λ e=> ?_);apply et;refine(?_:(match(Y.set L.ig (.list (g++chars w))).f L.il with| .inst C as=>_|_=>False));refine(aZ n1 l).symm▸?_;refine⟨rfl,?_⟩;refine(?_:(match(Y.set L.ig (.list (g++chars w))).f L.il with| .inst C' MG=>_|_=>False));exact aZ n1 l▸⟨rfl,by decide,(by decide:4<=100),h _ (z (by refine(bc e).symm▸?_;rfl)) ⟨ah _,λ i D h1 N=>(Mem.fT _ _ h1).trans (Mem.fT _ _ N)⟩ rfl⟩;refine h _ (u ?_) ⟨ah _,λ i D D N=>Mem.fT _ _ N⟩ rfl;exact lN.mpr λ m=>ne_of_beq_false e (T▸FI (T.symm▸m))
inductive Rd(J:Cx)(d:Nat)(i j:Nat)(L:Lx)(body r:List MS)(Q:Fl->aw->Mem->Prop)(I:Nat->aw->Mem->Prop)(n:Nat)(B:aw)(Y:Mem):Prop where
 |fin (h1:Y.f j= .rN) (h2:wSs J pg (d+3) r Q B Y):Rd J d i j L body r Q I n B Y
 |on (k:Nat) (hL:cU Y L k []) (hj:Y.f j= .dZ bg (.ref L.il)) (hn:j<Y.n) (h3:L.text.drop k=[]->∀σ',cU σ' L k []->AF L Y σ'->wSs J pg (d+3) r Q B (σ'.set j .rN)) (h4:∀c rest,L.text.drop k=c::rest->∀σ',cU σ' L (k+1) []->AF L Y σ'->∀K:Fl->aw->Mem->Prop,(∀m bj σ',m<n->I m bj σ'->K .next bj σ'/\K .cont bj σ')->(∀w bj σ',Q (.ret w) bj σ'->K (.ret w) bj σ')->wSs J pg (d+3) body K (B.set i (.str [c])) σ'):Rd J d i j L body r Q I n B Y
def Nm(H:A9 J){i:Nat}{it:ME}{body r:List MS}{Q:Fl->aw->Mem->Prop}{j:Nat}{L:Lx}(hit:Ev J (d+3) it B Y (.ref j))(I:Nat->aw->Mem->Prop)(n:Nat)(v:I n B Y)(C:∀n B Y,I n B Y->Rd J d i j L body r Q I n B Y):wSs J pg (d+3) (.oW i it body::r) Q B Y:=by refine et (hit _ ⟨I,n,v,λ n B Y h=> ?_⟩);cases C n B Y h with
 |fin M N=>refine M.symm▸?_;exact N|on k T t p a z=>refine t.symm▸?_;refine⟨⟨59,rfl,rfl⟩,?_⟩;refine pI H T λ σ' o ch y=>⟨T.oz ch t p,?_⟩;cases l:L.text.drop k with
  |nil=>rw[l]at o;exact a l σ' o ch|cons c rest=>rw[l]at o;exact z c rest l σ' o ch _ (λ m x σ' hm hi=>⟨⟨m,hm,hi⟩,⟨m,hm,hi⟩⟩) λ w x σ' q=>q
noncomputable def dW(p:Nat->Bool)(l:aj):Bool->aj->aj×aj:=match l with
 |[]=>λ D acc=>(acc,[])|c::r=>λ e acc=>match e with
  |true=>dW p r false (acc++[c])|false=>if p c=true then(acc,r)else if c=92 then dW p r true acc else dW p r false (acc++[c])
noncomputable def isQ(c:Nat):Bool:=decide (c=34)
noncomputable def mT(c:Nat):Bool:=decide (c∈J9)
noncomputable def cG(l:aj):aj×aj:=match l with
 |[]=>([],[])|c::r=>if mT c=true then cG r else if c=34 then dW isQ r false []else dW mT (c::r) false []
def dQ{p:Nat->Bool}{c:Nat}{r acc:aj}(h:p c=true):dW p (c::r) false acc=(acc,r):=ar h
def fX{p:Nat->Bool}{c:Nat}{r acc:aj}(h:p c=false)(N:c≠92):dW p (c::r) false acc=dW p r false (acc++[c]):=(au (by refine h.symm▸?_;exact nf)).trans (au N)
def fY{p:Nat->Bool}{r acc:aj}(h:p 92=false):dW p (92::r) false acc=dW p r true acc:=(au (by refine h.symm▸?_;exact nf)).trans (ar rfl)
def qN{p:Nat->Bool}{r acc:aj}:dW p r true acc=dW p (r.drop 1) false (acc++r.take 1):=by induction r with
 |nil=>exact aF (·,[]) (dw acc).symm|cons c r=>rfl
def drop_cons{l:aj}{k c:Nat}{r:aj}(h:l.drop k=c::r):l.drop (k+1)=r:=by refine jG▸h.symm▸?_;rfl
def AH{l r:aj}{k:Nat}(h:l.drop k=r):l.drop (k+(r.take 1).length)=r.drop 1:=by refine jG▸h.symm▸?_;induction r<;>rfl
noncomputable def yW(L:Lx)(j:Nat)(acc:aj)(v:V):aw:=[.ref L.il,.str acc,.ref j,v]
def I6(H:A9 J){r:List MS}{Q:Fl->aw->Mem->Prop}{L:Lx}{k j:Nat}(T:cU Y L k []){v:V}{acc:aj}(h:∀σ',cU σ' L (k+((L.text.drop k).take 1).length) []->AF L Y σ'->wSs J pg (d+3) r Q (yW L j acc (.str ((L.text.drop k).take 1))) σ'):wSs J pg (d+3) (.assign [.var 3] (.a9 (.var 0) 15 [])::r) Q (yW L j acc v) Y:=by have l:=T.l;refine et (my (v:= .ref L.il) (x:=(.glob bg,[.ref L.il])) aB (aF (j7 pg · (.ref L.il) 15) l) ?_);refine(?_:aJ J (d+3) (.glob bg) [.ref L.il] [] [] _ Y);exact pI H T λ σ' M N D=>h σ' M N
def sO{r:List MS}{Q:Fl->aw->Mem->Prop}{L:Lx}{j:Nat}{acc w:aj}(I:acc.length+w.length<=1001)(h:wSs J pg d r Q (yW L j (acc++w) (.str w)) Y):wSs J pg d (.aug 1 .Add (.var 3)::r) Q (yW L j acc (.str w)) Y:=by apply et;refine(?_:opt (vm Y .Add (.str acc) (.str w)) _);exact cz (ar (af (aa I dD))) h
structure LI(L:Lx)(dA Y:Mem)(k j:Nat)(acc:aj):Prop where
 lx:cU Y L k []
 ch:AF L dA Y
 jn:dA.n<=j
 jl:j<Y.n
 jc:Y.f j= .dZ bg (.ref L.il)
 al:acc.length<=k
def LI.next{L:Lx}{b Y σ':Mem}{k m j:Nat}{acc d:aj}(h:LI L b Y k j acc)(I:cU σ' L m [])(w:AF L Y σ')(C:d.length<=m):LI L b σ' m j d:=⟨I,h.ch.trans w,h.jn,ai h.jl w.1,h.lx.oz w h.jc h.jl,C⟩
def LI.lim{L:Lx}{b Y:Mem}{k j:Nat}{acc w:aj}(h:LI L b Y k j acc)(g:w.length<=1):acc.length+w.length<=1001:=dS (aa h.al (aa h.lx.kl h.lx.len)) g
structure AI(L:Lx)(dA Y:Mem)(j:Nat):Prop where
 lx:∃k,cU Y L k []/\L.text.drop k=[]
 ch:AF L dA Y
 jc:Y.f j= .rN
def LI.ended{L:Lx}{b Y σ':Mem}{k m j:Nat}{acc:aj}(h:LI L b Y k j acc)(I:cU σ' L m [])(hd:L.text.drop m=[])(w:AF L Y σ'):AI L b (σ'.set j .rN) j:=⟨⟨m,I.off (I.Vp (h.lx.oz w h.jc h.jl)) _,hd⟩,⟨(h.ch.trans w).1,λ i hi M N=>(Mem.fT _ _ (az (ai hi h.jn))).trans ((h.ch.trans w).2 i hi M N)⟩,Mem.aR _ _ _⟩
noncomputable def Vr(t:ME):List MS:=[.dC t [.ret (.var 1)] [.dC (.cmp .Eq (.var 3) (.lit (.str [92]))) [.assign [.var 3] (.a9 (.var 0) 15 [])] []],.aug 1 .Add (.var 3)]
def pJ(Y:Mem)(c k:Nat):qm Y .Eq (.str [c]) (.str [k])=some (decide (c=k)):=by refine(?_:some (([c]:aj)==[k])=_);by_cases h:c=k;rw[h,f9,af rfl];exact(cJ h).symm▸(iN λ e=>h (jF e).1).symm▸rfl
def yu{a b r:List MS}{Q:Fl->aw->Mem->Prop}{L:Lx}{j c k:Nat}{acc:aj}(M:c=k->wSs J pg d a (nx J d r Q) (yW L j acc (.str [c])) Y)(N:c≠k->wSs J pg d b (nx J d r Q) (yW L j acc (.str [c])) Y):wSs J pg d (.dC (.cmp .Eq (.var 3) (.lit (.str [k]))) a b::r) Q (yW L j acc (.str [c])) Y:=ot _ (.cmp (va:= .str [c]) (vb:= .str [k]) aB aB (pJ Y c k)) (λ e=>M (ae e)) λ e=>N (of_decide_eq_false e)
def Pa{L:Lx}{k j c:Nat}{t:aw}{acc:aj}(h:cU Y L k t):Ev J d (.cmp .In (.var 3) (.attr (.var 0) 2)) (yW L j acc (.str [c])) Y (.bool (mT c)):=by have l:=h.l;exact .cmp (va:= .str [c]) aB (gQ aB l rfl rfl vn) rfl
inductive GI(L:Lx)(p:Nat->Bool)(dA:Mem)(j:Nat)(fin rest:aj)(n:Nat)(B:aw)(Y:Mem):Prop where
 |mk (k:Nat) (acc:aj) (v:V) (h:LI L dA Y k j acc) (hr:B=yW L j acc v) (hn:n=(L.text.drop k).length) (hf:dW p (L.text.drop k) false acc=(fin,rest)):GI L p dA j fin rest n B Y
def I7(H:A9 J){t:ME}{p:Nat->Bool}{r:List MS}{Q:Fl->aw->Mem->Prop}{b Y:Mem}{L:Lx}{j k:Nat}{acc fin rest:aj}{v:V}(o:LI L b Y k j acc)(hf:dW p (L.text.drop k) false acc=(fin,rest))(l:p 92=false)(u:∀Y k acc c,cU Y L k []->Ev J (d+3) t (yW L j acc (.str [c])) Y (.bool (p c)))(i:∀a σ' m,cU σ' L m []->L.text.drop m=rest->AF L b σ'->Q (.ret (.str fin)) a σ')(s:rest=[]->∀v σ',AI L b σ' j->wSs J pg (d+3) r Q (yW L j fin v) σ'):wSs J pg (d+3) (.oW 3 (.var 2) (Vr t)::r) Q (yW L j acc v) Y:=by refine Nm H (j:=j) (L:=L) aB (GI L p b j fin rest) _ ⟨k,acc,v,o,rfl,rfl,hf⟩ ?_;rintro n B Y ⟨k,acc,v,h,rfl,rfl,hf⟩;refine .on k h.lx h.jc h.jl (λ T σ' I ch=> ?_) (λ c E w σ' I ch K k1 k2=> ?_);rw[T]at hf;obtain⟨rfl,rfl⟩:=dX hf;exact s rfl v _ (h.ended I T ch);have hd:=drop_cons w;rw[w]at hf k1;have al:=jk h.al;refine(?_:wSs J pg (d+3) _ K (yW L j acc (.str [c])) σ');refine ot (p c) (u _ _ _ _ I) (λ e=> ?_) (λ e=> ?_);rw[dQ e]at hf;obtain⟨rfl,rfl⟩:=dX hf;exact k2 _ _ _ (i _ _ (k+1) I hd (h.ch.trans ch));refine yu (λ q=> ?_) (λ q=> ?_);subst q;rw[fY l,qN]at hf;refine I6 H I λ U A x=> ?_;rw[hd]at A⊢;have hd2:=AH hd;refine wR (sO (h.lim (mS E)) ?_);exact(k1 _ _ _ (by refine hd2.symm▸fk.symm▸?_;exact Nat.lt_succ_of_le (iK _ _)) ⟨_,_,_,h.next A (ch.trans x) (by exact bH▸eH al _),rfl,rfl,by exact hd2▸hf⟩).1;rw[fX e q]at hf;refine wR (sO (h.lim (ah 1)) ?_);exact(k1 _ _ _ (by exact hd▸bz _) ⟨k+1,_,_,h.next I ch (by exact bH▸gK h.al),rfl,rfl,by exact hd▸hf⟩).1
inductive TI(L:Lx)(dA:Mem)(j:Nat)(fin rest:aj)(n:Nat)(B:aw)(Y:Mem):Prop where
 |fin (v:V) (h:AI L dA Y j) (hr:B=yW L j fin v) (he:rest=[]) (hn:n=0):TI L dA j fin rest n B Y
 |on (k:Nat) (v:V) (h:LI L dA Y k j []) (hr:B=yW L j [] v) (hn:n=(L.text.drop k).length+1) (hf:cG (L.text.drop k)=(fin,rest)):TI L dA j fin rest n B Y
def yv(H:A9 J){L:Lx}{k:Nat}(T:cU Y L k [])(h:∀σ' m,cU σ' L m []->L.text.drop m=(cG (L.text.drop k)).2->AF L Y σ'->Q (.str (cG (L.text.drop k)).1) σ'):aJ J (d+4) (.glob gf) [.ref L.il] [] [] Q Y:=by
 apply jR H.hd _;have l:=T.l;refine LR (.ref L.ip) false (gQ aB l rfl rfl vn) ?_ nf (λ D=> ?_);refine(?_:(match(Y.f L.ip).eI with|some vs=>_|none=>none)=_);refine T.p.symm▸?_;rfl;refine ei (bW (v:= .str []) aB (r8 (v:= .ref Y.n) (σ':=Y.alloc (.dZ bg (.ref L.il))) (λ K q=> ?_) ?_));refine(?_:(match Y.f L.il with| .inst C as=>_|_=>False));exact l▸⟨rfl,q⟩;obtain⟨fin,rest,hf⟩:∃fin rest,cG (L.text.drop k)=(fin,rest):=⟨_,_,rfl⟩;rw[hf]at h;have y:LI L Y (Y.alloc (.dZ bg (.ref L.il))) k Y.n []:=
  ⟨T.keep (bR _) λ i hi=>Mem.cA _ _ (az (T.lt i hi)),⟨bR _,λ i hi D D=>Mem.cA _ _ (az hi)⟩,ah _,bz _,Mem.aY _ _,cI _⟩
 have done:∀v σ',AI L Y σ' Y.n->rest=[]->wSs J pg (d+3) [.ret (.var 1)] (c7 Q) (yW L Y.n fin v) σ':=λ v σ' e r=>by obtain⟨m,a,o⟩:=e.lx;exact h σ' m a (o.trans r.symm) e.ch
 refine Nm H (j:=Y.n) (L:=L) aB (TI L Y Y.n fin rest) _ (.on k .aC y rfl rfl hf) ?_;rintro n B aX (⟨v,he,rfl,r,rfl⟩|⟨k,v,M,rfl,rfl,hf⟩);exact .fin he.jc (done v _ he r);refine .on k M.lx M.jc M.jl (λ A σ' I ch=> ?_) (λ c E w σ' I ch K k1 k2=> ?_);rw[A]at hf;obtain⟨rfl,rfl⟩:=dX hf;exact done v _ (M.ended I A ch) rfl;have hd:=drop_cons w;rw[w]at hf k1;refine(?_:wSs J pg (d+3) _ K (yW L Y.n [] (.str [c])) σ');have x:∀N u m,cU u L m []->L.text.drop m=rest->AF L Y u->K (.ret (.str fin)) N u:=λ N u m a o f=>k2 _ _ _ (h u m a o f);have s:rest=[]->∀v u,AI L Y u Y.n->K .next (yW L Y.n fin v) u:=λ r v u he=>(k1 0 _ _ (ji _) (.fin v he rfl r rfl)).1
 refine ot (mT c) (Pa I) (λ e=> ?_) (λ e=> ?_);have z:cG E=(fin,rest):=(ar e).symm.trans hf;exact(k1 _ _ _ (by exact hd▸bz _) (.on (k+1) _ (M.next I ch (cI _)) rfl rfl (by exact hd▸z))).2;have G:¬mT c=true:=by refine e.symm▸?_;exact nf
 refine ei (yu (λ b=> ?_) (λ b=> ?_));have z:dW isQ E false []=(fin,rest):=(ar b).symm.trans ((au G).symm.trans hf);exact I7 H (p:=isQ) (M.next I ch (cI _)) (by exact hd▸z) rfl (λ Y k acc c D=> .cmp (va:= .str [c]) (vb:= .str [34]) aB aB (pJ Y c 34)) x s;have hf:dW mT (c::E) false []=(fin,rest):=(au b).symm.trans ((au G).symm.trans hf);refine yu (λ U=> ?_) (λ U=> ?_);subst U;rw[fY rfl,qN]at hf;refine I6 H I λ aU t g=> ?_;rw[hd]at t⊢;refine ei (sO (M.lim (mS E)) ?_);exact I7 H (p:=mT) (M.next t (ch.trans g) (by rw[bH];exact eH (cI _) _)) (by exact AH hd▸hf) rfl (λ Y k acc c h=>Pa h) x s;rw[fX e U]at hf;refine ei (sO (M.lim (ah 1)) ?_);exact I7 H (p:=mT) (acc:=[c]) (M.next I ch (gK (cI _))) (by exact hd▸hf) rfl (λ Y k acc c h=>Pa h) x s
def fZ{o e:ME}{k:Nat}{r:List MS}{Q:Fl->aw->Mem->Prop}{Y σ':Mem}{i C:Nat}{as:List (Nat×V)}{v:V}(he:Th J d e B Y v σ')(m:Ev J d o B σ' (.ref i))(hi:σ'.f i= .inst C as)(I:pg.insts.contains C=true)(u:k<9)(L:as.length<=100)(h:wSs J pg d r Q B (σ'.set i (.inst C (m7 as k v)))):wSs J pg d (.assign [.attr o k] e::r) Q B Y:=he _ (m _ (by
  refine(?_:(match σ'.f i with| .inst C as=>_|_=>False))
  exact hi▸⟨I,u,L,h⟩))
def uL(H:Hd J){fp:V}(U:fp≠.aC)(h:∀σ',Ext Y σ'->σ'.n=Y.n+2->σ'.f Y.n= .inst 59 [(0,.int 1),(1,fp),(2,.str J9),(3,.ref (Y.n+1))]->σ'.f (Y.n+1)= .list []->Q (.ref Y.n) σ'):aJ J (d+2) (.glob 59) [fp] [] [] Q Y:=by obtain⟨P,A⟩:=H.hK;refine uy H.ok (.inst 59 []) (.inl rfl) (by refine A.symm▸?_;kernel_rfl) (fI:=km) (by refine A.symm▸?_;kernel_rfl) (by refine A.symm▸?_;kernel_rfl) ?_;apply ni H _ _;have le:∀{n:Nat},n<=4->n<=100:=λ h=>aa h dD;refine fZ (i:=Y.n) (C:=59) (as:=[]) (v:= .int 1) aB aB (Mem.aY _ _) rfl dD (cI _) ?_;refine fZ (i:=Y.n) (C:=59) (as:=[(0,.int 1)]) (v:=fp) (σ':=_) (qK rfl U) aB (Mem.aR _ _ _) rfl dD (le (n:=1) dD) ?_;refine fZ (i:=Y.n) (C:=59) (as:=[(0,.int 1),(1,fp)]) (v:= .str J9) aB aB (Mem.aR _ _ _) rfl dD (le (n:=2) dD) ?_;refine fZ (i:=Y.n) (C:=59) (as:=[(0,.int 1),(1,fp),(2,.str J9)]) (v:= .ref (Y.n+1)) aB aB (i7 (Mem.aR _ _ _) (ny _).symm) rfl dD (le (n:=3) dD) ?_;refine⟨rfl,h _ ⟨av Y.n 2,λ i hi=> ?_⟩ rfl (Mem.aR _ _ _) (aZ (ny _) (Mem.aY _ _))⟩;have n1:i≠Y.n:=az hi;exact aZ n1 (i7 (aZ n1 (aZ n1 (aZ n1 (Mem.cA _ _ n1)))) (az (fF hi)))
def off{n a b:Nat}(h:a≠b):n+a≠n+b:=λ e=>h (Nat.add_left_cancel e)
def below{n i c:Nat}(h:i<n):i≠n+c:=az (ai h (av _ _))
def yw(H:A9 J){text:aj}(I:text.length<=1000)(h:∀σ',Ext Y σ'->cU σ' ⟨Y.n+4,Y.n,Y.n+3,Y.n+2,Y.n+5,text⟩ 0 []->σ'.n=Y.n+6->Q (.ref (Y.n+4)) σ'):aJ J (d+3) (.glob a6) [.str text] [] [] Q Y:=by apply r7 H _;refine(?_:aJ J (d+2) (.glob 59) [.none] [] [] _ Y);refine uL H.hd vn λ l ex M N j=> ?_;obtain⟨n1,f1⟩:=l;have M:n1=Y.n+2:=M;subst M;refine⟨rfl,rfl,.str text,.ref (Y.n+2),Y.n,59,[(0,.int 1),(1,.none),(2,.str J9),(3,.ref (Y.n+1))],rfl,vn,rfl,vn,rfl,i7 N (off (a:=0) (b:=2) dD),rfl,(by decide:4<=100),?_⟩;refine uL H.hd vn λ σ' s g1 g2 g3=> ?_;have g1:σ'.n=Y.n+6:=g1;have old:∀{i:Nat}{v:O},i<Y.n+4->((((⟨Y.n+2,f1⟩:Mem).alloc (.list [])).alloc (.u5 0 [.str text,.ref (Y.n+2)])).set Y.n (.inst 59 (m7 [(0,.int 1),(1,.none),(2,.str J9),(3,.ref (Y.n+1))] 4 (.ref (Y.n+3))))).f i=v->σ'.f i=v:=λ hi e=>(s.2 _ hi).trans e;have r:∀{c:Nat},c<4->Y.n+c<Y.n+4:=λ h=>lJ h _;refine h σ' ⟨aa (av _ 6) (bO g1.symm),λ i hi=>old (ai hi (av _ _)) (aZ (below (c:=0) hi) (i7 (i7 (ex.2 i hi) (below (c:=2) hi)) (below (c:=3) hi)))⟩ ⟨g2,⟨1,Y.n+1,old (r (c:=0) dD) (Mem.aR _ _ _)⟩,old (r (c:=3) dD) (aZ (off (b:=0) dD) (Mem.aY _ _)),⟨[],old (r (c:=2) dD) (aZ (off (b:=0) dD) (i7 (Mem.aY _ _) (off (a:=2) (b:=3) dD))),rfl⟩,g3,λ i hi=> ?_,off dD,off (b:=0) dD,I,cI _⟩ g1;refine g1.symm▸?_;have q:∀{c:Nat},c<6->Y.n+c<Y.n+6:=λ h=>lJ h _;rcases hi with rfl|rfl|rfl|rfl|rfl;exact q (c:=4) dD;exact q (c:=0) dD;exact q (c:=3) dD;exact q (c:=2) dD;exact q (c:=5) dD
def fh{f:ME}{es:List ME}{K:fA}{a:Nat}(hf:Ev J (d+1) f B Y (.glob a))(h:wEs J pg (d+1) es (λ vs Y=>aJ J (d+1) (.glob a) vs [] [] K Y) B Y):wE J pg (d+1) (.call f es [] []) K B Y:=hf _ h
def i8{o e:ME}{m:Nat}{K:fA}{v w:V}{x:V×aw}(n:Ev J d o B Y v)(hm:kP pg Y v m=some x)(he:cF J d [e] B Y [w])(h:fM J d x.1 (x.2++[w]) [] [] K Y):wE J pg d (.a9 o m [e]) K B Y:=my n hm (he _ h)
def RV{L:Lx}{k m fa:Nat}{t:aw}(T:cU Y L k t)(A:m≠12)(h:pg.a9 59 m=some fa):kP pg Y (.ref L.il) m=some (.glob fa,[.ref L.il]):=by have l:=T.l;refine(aF (j7 pg · (.ref L.il) m) l).trans ?_;refine(?_:(if m=12 then _ else(pg.a9 59 m).map λ fa=>(V.glob fa,[V.ref L.il]))=_);rw[au A,h];rfl
def Ext.Pc{Y σ' u:Mem}{L:Lx}(e:Ext Y σ')(c:AF L σ' u)(M:Y.n<=L.il)(N:Y.n<=L.ig):Ext Y u:=⟨aa e.1 c.1,λ i hi=>(c.2 i (ai hi e.1) (az (ai hi M)) (az (ai hi N))).trans (e.2 i hi)⟩
def DL{es:List ME}{r:List MS}{Q:Fl->aw->Mem->Prop}(h:wEs J pg d es (λ vs Y=>Q (.ret (.tuple vs)) B Y) B Y):wSs J pg d (.ret (.tuple es)::r) Q B Y:=h
def pK{α:Type}(vs:List α)(o:Nat):idx vs (o:Int)=vs[o]? :=ar (af (dN o))
def ne_int{o a:Nat}(h:o≠a):((o:Int)==(a:Int))=false:=iN λ e=>h (Int.ofNat.inj e)
def eq_int(a:Nat):((a:Int)==(a:Int))=true:=f9 _
def unpack_{is:aj}{e:ME}{r:List MS}{Q:Fl->aw->Mem->Prop}(h:wE J pg d e (λ v Y=>opt (Kw Y v) λ vs=>is.length=vs.length/\nx J d r Q .next (iT is vs B) Y) B Y):wSs J pg d (.unpack is e::r) Q B Y:=h
def add_list{xs ys:aj}(h:xs.length+ys.length<=1000000):lV Y .Add (.list (nums xs)) (.list (nums ys))=some (.list (nums (xs++ys))):=(ar (af (by rw[bh,bh];exact h))).trans (aF (λ l=>some (V.list l)) (eG (f:=λ k:Nat=>V.int (k:Int)) (l₁:=xs) (l₂:=ys)).symm)
def I9(i:Int):Int.fmod i 1000000=((Int.fmod i 1000000).toNat:Int):=(Int.toNat_of_nonneg (by rw[Int.fmod_eq_emod_of_nonneg _ dD];exact Int.emod_nonneg _ dD)).symm
def Ja(l:aj):(l.map λ k:Nat=>(k:Int)).sum=((l.sum:Nat):Int):=by induction l with
 |nil=>rfl|cons a l z=>exact aF ((a:Int)+·) z
def Vx{l:aj}(I:l.length<=100000):d8 Y (.bi .sum) [.list (nums l)]=some (.int ((l.sum:Nat):Int),Y):=by refine(?_:(match intsOf (nums l)with|some is=>if short is then some (V.int is.sum,Y)else none|none=>none)=_);rw[mz];exact(ar (af (by rw[a7];exact I))).trans (aF (λ i=>some (V.int i,Y)) (Ja l))
def pM(a b:Nat)(U:b≠0)(H:b<2^64):lV Y .FloorDiv (.int (a:Int)) (.int (b:Int))=some (.int ((a/b:Nat):Int)):=by refine(?_:(if decide ((b:Int)≠0)&&small (b:Int)then some ((a:Int).fdiv b)else none).map V.int=_);rw[af (show(b:Int)≠0 from λ e=>U (Int.ofNat.inj e)),kB H,Int.fdiv_eq_ediv_of_nonneg _ (dN b),Int.natCast_ediv];rfl
def sP(a b:Nat):lV Y .Add (.int (a:Int)) (.int (b:Int))=some (.int ((a+b:Nat):Int)):=rfl
def uM(n:Nat):fN 0 (n:Int) 1=nums (List.range n):=by delta fN;rw[tY];exact vW λ j D=>aF V.int (by rw[Int.zero_add,Int.mul_one])
def Ev.range{k:Nat}{a:ME}{n:Nat}(H:a.isStar=false)(C:Ev J d a B Y (.int (n:Int)))(p:n<=1000):Ev J d (.range k [a]) B Y (.it false (nums (List.range n))):=λ K q=>by exact cF.one H C _ (cz ((ar (jI (af (dN n)) (af (gb.mpr (aa p dD))))).trans (aF some (uM n))) q)
def CD(l:List (Option Bool)):(∀x∈l,x=some true)->allEq l=some true:=by induction l with
 |nil=>exact λ D=>rfl|cons x l z=>intro h;refine(h x (.head _)).symm▸?_;refine(?_:(allEq l).map (true&&·)=_);rw[z λ y T=>h y (.tail _ T)];rfl
def Jb{α I:Type}(f:α->α->I)(l:List α):List.zipWith f l l=l.map λ a=>f a a:=by induction l with
 |nil=>rfl|cons a l z=>exact aF (f a a::·) z
def uN{f:V->V->Option Bool}{e:Option Bool}{l:aw}(h:∀v∈l,f v v=some true):zc (some f) e l l=some true:=by refine(ar (af rfl)).trans ?_;refine(?_:allEq (List.zipWith f l l)=_);rw[Jb];exact CD _ λ x L=>by obtain⟨v,n,rfl⟩:=bV.mp L;exact h v n
def pN{n:Nat}{l:aw}(h:∀v∈l,xi n v v=some true):xi (n+1) (.list l) (.list l)=some true:=uN h
def wX{n:Nat}{l:aw}(h:∀v∈l,xi n v v=some true):xi (n+1) (.tuple l) (.tuple l)=some true:=uN h
def yx(n:Nat)(i:Int):xi n (.int i) (.int i)=some true:=by induction n<;>exact aF some (f9 i)
def LY(n:Nat)(s:aj):xi n (.str s) (.str s)=some true:=by induction n<;>exact aF some (f9 s)
noncomputable def d3:Nat->Nat×Nat
 |0=>(34,32)|1=>(92,34)|2=>(9,92)|3=>(34,13)|4=>(10,34)|_=>(92,10)
def mA{o:ME}{lo hi:Option ME}{vo v:V}{l h:Option Int}(m:Ev J d o B Y vo)(I:∀K:fA,(∀w,iS w=some l->K w Y)->wO J pg d lo K B Y)(f:∀K:fA,(∀w,iS w=some h->K w Y)->wO J pg d hi K B Y)(n:qo Y vo l h=some v):Ev J d (.slice o lo hi) B Y v:=λ K k=>by have key:wE J pg d o (λ vo Y=>wO J pg d lo (λ L Y=>wO J pg d hi (λ H Y=>opt (iS L) λ l=>opt (iS H) λ h=>opt (qo Y vo l h) λ v=>K v Y) B Y) B Y) B Y:=m _ (I _ λ w g=>f _ λ r s=>cz g (cz s (cz n k)));exact key
def pO{K:fA}(k:∀w,iS w=some none->K w Y):wO J pg d none K B Y:=k .none rfl
def c9{e:ME}{K:fA}{n:Int}(he:Ev J d e B Y (.int n))(k:∀w,iS w=some (some n)->K w Y):wO J pg d (some e) K B Y:=he _ (k _ rfl)
def pP{e:CmpOp}{a b:ME}{K:fA}(h:wE J pg d a (λ va Y=>wE J pg d b (λ vb Y=>opt (qm Y e va vb) λ v=>K (.bool v) Y) B Y) B Y):wE J pg d (.cmp e a b) K B Y:=h
def lE{es:List ME}{K:aw->Mem->Prop}{vs:aw}(he:cF J d es B Y vs)(k:K vs Y):wEs J pg d es K B Y:=he _ k
def yz{t:ME}{a b r:List MS}{Q:Fl->aw->Mem->Prop}(h:wE J pg d t (λ v Y=>opt (cQ Y v) λ q=>match q with
   |true=>wSs J pg d a (nx J d r Q) B Y|false=>wSs J pg d b (nx J d r Q) B Y) B Y):wSs J pg d (.dC t a b::r) Q B Y:=h
def qO(k:Nat)(u:k<6):iQ Y (.list [.str [34,32],.str [92,34],.str [9,92],.str [34,13],.str [10,34],.str [92,10]]) (.int (k:Int))=some (.str [(d3 k).1,(d3 k).2]):=by match k,u with
 |0,_=>rfl|1,_=>rfl
 |2,_=>rfl|3,_=>rfl
 |4,_=>rfl|5,_=>rfl
 |k+6,h=>exact absurd h (aD (hV _ _))
def LZ{p s:Nat}(M:p<128)(N:s<128):d8 Y (.bm .ie) [.str [p,s],.str [97,115,99,105,105]]=some (.bytes [p,s],Y):=ar (jI (jI rfl (jI (af M) (jI (af N) rfl))) rfl)
def DM{e:ME}{r:List MS}{Q:Fl->aw->Mem->Prop}(h:wE J pg d e (λ v Y=>Q (.ret v) B Y) B Y):wSs J pg d (.ret e::r) Q B Y:=h
noncomputable def upd{α:Type}(f:Nat->α)(o:Nat)(v:α):Nat->α:=λ x=>if x=o then v else f x
def bF{α:Type}(f:Nat->α)(o:Nat)(v:α):upd f o v o=v:=ar rfl
def cH{α:Type}(f:Nat->α){o x:Nat}(v:α)(h:x≠o):upd f o v x=f x:=au h
noncomputable def ins(keys:aj)(o:Nat):aj:=if o∈keys then keys else keys++[o]
noncomputable def W2:Option (Nat×aj)->V
 |none=> .none|some (R,_)=> .ref R
noncomputable def bJ(keys:aj)(A:Nat->Nat):List (Int×V):=keys.map λ o:Nat=>((o:Int),V.ref (A o))
structure bl(X:Nat->Prop)(Y:Mem)(S D:Nat)(keys:aj)(A B:Nat->Nat)(np:Nat->Int)(su:Nat->aj)(rd:Option (Nat×aj))(po nf:Int):Prop where
 s:Y.f S= .inst 260 [(5,.ref D),(6,W2 rd),(7,.int po),(8,.int nf)]
 d:∃ep,Y.f D= .dict (bJ keys A) ep
 nd:keys.Nodup
 n:∀o∈keys,Y.f (A o)= .node 163 [.int (o:Int),.int (np o),.ref (B o)]
 b:∀o∈keys,Y.f (B o)= .list (nums (su o))
 iA:∀o∈keys,∀o'∈keys,A o=A o'->o=o'
 iB:∀o∈keys,∀o'∈keys,B o=B o'->o=o'
 r:∀R l,rd=some (R,l)->Y.f R= .list (nums l)/\(∀o∈keys,B o≠R)/\R<Y.n/\X R
 lt:S<Y.n/\D<Y.n/\∀o∈keys,A o<Y.n/\B o<Y.n
 oE:X S/\X D/\∀o∈keys,X (A o)/\X (B o)
 df:∀o,o∉keys->np o=0/\su o=[]
 kl:keys.length<=1000
def qP(X:Nat->Prop)(Y σ':Mem):Prop:=Y.n<=σ'.n/\∀i,i<Y.n->¬X i->σ'.f i=Y.f i
def qP.refl(X:Nat->Prop)(Y:Mem):qP X Y Y:=⟨ah _,λ D D D=>rfl⟩
def qP.trans{X:Nat->Prop}{Y σ' u:Mem}(a:qP X Y σ')(b:qP X σ' u):qP X Y u:=⟨aa a.1 b.1,λ i h L=>(b.2 i (ai h a.1) L).trans (a.2 i h L)⟩
def qP.set{X:Nat->Prop}{i:Nat}(hi:X i)(o:O):qP X Y (Y.set i o):=⟨ah _,λ j D L=>Mem.fT _ _ λ e=>L (e▸hi)⟩
def qP.CE{X:Nat->Prop}{Y σ':Mem}(e:Ext Y σ'):qP X Y σ':=⟨e.1,λ i h D=>e.2 i h⟩
def i9(A:Nat->Nat)(o:Nat)(keys:aj):(bJ keys A).lookup (o:Int)=if o∈keys then some (.ref (A o))else none:=by induction keys with
 |nil=>rfl|cons k keys z=>refine(?_:(((k:Int),V.ref (A k))::bJ keys A).lookup (o:Int)=_);rw[fm];by_cases h:o=k;rw[show((o:Int)==(k:Int))=true from cZ.mpr (aF Int.ofNat h),ar (h▸.head _),h];rw[iN λ e:(o:Int)=(k:Int)=>h (Int.ofNat.inj e)];apply z.trans;by_cases m:o∈keys;rw[ar m,ar (.tail _ m)];rw[au m,au λ q=>m ((aT.mp q).resolve_left h)]
def AK{l:List (Int×V)}{k:Int}{v:V}:l.lookup k=none->putD l k v=l++[(k,v)]:=by induction l with
 |nil=>exact λ D=>rfl|cons p l z=>intro h;rw[fm]at h;by_cases e:k=p.1;rw[cZ.mpr e]at h;exact sn h;rw[iN e]at h;refine(?_:(if p.1=k then _ else(p.1,p.2)::putD l k v)=_);rw[au (Ne.symm e),z h];rfl
def mB{o e:ME}{j:Nat}{r:List MS}{Q:Fl->aw->Mem->Prop}{Y σ':Mem}{i:Nat}{vs:aw}{v:V}(he:Th J d e B Y v σ')(m:Ev J d o B σ' (.ref i))(hi:σ'.f i= .node 163 vs)(t:j<3)(h:wSs J pg d r Q B (σ'.set i (.node 163 (vs.set j v)))):wSs J pg d (.assign [.slot o j] e::r) Q B Y:=he _ (m _ (by
  refine(?_:(match σ'.f i with| .node C vs=>_|_=>False))
  rw[hi]
  exact⟨rfl,t,h⟩))
def rK{o:ME}{j:Nat}{i:Nat}{vs:aw}{w:V}(m:Ev J d o B Y (.ref i))(hi:Y.f i= .node 163 vs)(g:vs[j]? =some w)(v:w≠.aC):Ev J d (.slot o j) B Y w:=λ K q=>m _ (by
 refine(?_:(match Y.f i with| .node C vs=>_|_=>False))
 rw[hi]
 exact⟨rfl,cz g (IY v q)⟩)
def Jc{o e:ME}{j:Nat}{c:Operator}{r:List MS}{Q:Fl->aw->Mem->Prop}{i:Nat}{vs:aw}{a b v:V}(m:Ev J d o B Y (.ref i))(hi:Y.f i= .node 163 vs)(t:j<3)(z:vs[j]? =some a)(k:a≠.aC)(he:Ev J d e B Y b)(n:vm Y c a b=some (v,Y))(h:wSs J pg d r Q B (Y.set i (.node 163 (vs.set j v)))):wSs J pg d (.jv o j c e::r) Q B Y:=m _ (by
  refine(?_:(match Y.f i with| .node C vs=>_|_=>False))
  rw[hi]
  refine⟨rfl,cz z (IY k (he _ (cz n ?_)))⟩
  refine(?_:(match Y.f i with| .node x I=>_|_=>False))
  rw[hi]
  exact⟨rfl,t,h⟩)
def Jd{o e:ME}{k:Nat}{c:Operator}{r:List MS}{Q:Fl->aw->Mem->Prop}{i C:Nat}{as:List (Nat×V)}{a b v:V}(m:Ev J d o B Y (.ref i))(hi:Y.f i= .inst C as)(I:pg.insts.contains C=true)(u:k<9)(L:as.length<=100)(z:as.lookup k=some a)(x:a≠.aC)(he:Ev J d e B Y b)(n:vm Y c a b=some (v,Y))(h:wSs J pg d r Q B (Y.set i (.inst C (m7 as k v)))):wSs J pg d (.ju o k c e::r) Q B Y:=m _ (by
  refine(?_:(match Y.f i with| .inst C as=>_|_=>False))
  rw[hi]
  refine⟨I,cz z (IY x (he _ (cz n ?_)))⟩
  refine(?_:(match Y.f i with| .inst s p=>_|_=>False))
  rw[hi]
  exact⟨I,u,L,h⟩)
def AL(H:Hd J){o:Int}(h:∀σ',Ext Y σ'->σ'.n=Y.n+2->σ'.f Y.n= .node 163 [.int o,.int 0,.ref (Y.n+1)]->σ'.f (Y.n+1)= .list []->Q (.ref Y.n) σ'):aJ J (d+2) (.glob 163) [.int o] [] [] Q Y:=by obtain⟨P,A⟩:=H.hK;refine uy H.ok (.node 163 [.aC,.aC,.aC]) (.inr rfl) (by rw[A];kernel_rfl) (fI:=kz) (by rw[A];kernel_rfl) (by rw[A];kernel_rfl) ?_;apply nk H _ _;refine mB (i:=Y.n) (vs:=[.aC,.aC,.aC]) (v:= .int o) aB aB (Mem.aY _ _) dD ?_;refine mB (i:=Y.n) (vs:=[.int o,.aC,.aC]) (v:= .int 0) aB aB (Mem.aR _ _ _) dD ?_;refine mB (i:=Y.n) (vs:=[.int o,.int 0,.aC]) (v:= .ref (Y.n+1)) aB aB ((Mem.cA _ _ (az (bz _))).trans (Mem.aR _ _ _)) dD ?_;refine⟨rfl,h _ ⟨av Y.n 2,λ i hi=> ?_⟩ rfl (Mem.aR _ _ _) (aZ (ny _) (Mem.aY _ _))⟩;have n1:i≠Y.n:=az hi;exact aZ n1 (i7 (aZ n1 (aZ n1 (Mem.cA _ _ n1))) (az (fF hi)))
structure RW(Y:Mem)(S D:Nat)(keys:aj)(A B:Nat->Nat)(o:Nat):Prop where
 as:A o≠S
 ad:A o≠D
 bs:B o≠S
 bd:B o≠D
 ab:∀o'∈keys,A o≠B o'
structure Pd(Y:Mem)(S D:Nat)(keys:aj)(A B:Nat->Nat)(rd:Option (Nat×aj)):Prop where
 sd:S≠D
 k:∀o∈keys,RW Y S D keys A B o
 r:∀R l,rd=some (R,l)->R≠S/\R≠D/\∀o∈keys,A o≠R/\B o≠R
def other{i j:Nat}{a b:O}(M:Y.f i=a)(N:Y.f j=b)(h:a≠b):i≠j:=λ e=>h (M.symm.trans (e▸N))
def bl.kinds{X:Nat->Prop}{S D:Nat}{keys:aj}{A B:Nat->Nat}{np:Nat->Int}{g:Nat->aj}{N:Option (Nat×aj)}{po nf:Int}(h:bl X Y S D keys A B np g N po nf):Pd Y S D keys A B N:=by obtain⟨ep,hd⟩:=h.d;exact⟨other h.s hd od,λ o m=>⟨other (h.n o m) h.s od,other (h.n o m) hd od,other (h.b o m) h.s od,other (h.b o m) hd od,λ z x=>other (h.n o m) (h.b z x) od⟩,λ R l d=>⟨other (h.r R l d).1 h.s od,other (h.r R l d).1 hd od,λ o m=>⟨other (h.n o m) (h.r R l d).1 od,(h.r R l d).2.1 o m⟩⟩⟩
def bl.keep{X:Nat->Prop}{Y σ':Mem}{S D:Nat}{keys:aj}{A B:Nat->Nat}{np:Nat->Int}{g:Nat->aj}{N:Option (Nat×aj)}{po nf:Int}(h:bl X Y S D keys A B np g N po nf)(p:Y.n<=σ'.n)(u:∀i,i<Y.n->X i->σ'.f i=Y.f i):bl X σ' S D keys A B np g N po nf:=by obtain⟨s,⟨ep,d⟩,nd,n,b,I,L,r,lt,U,Q,w⟩:=h;have up:∀{i:Nat},i<Y.n->i<σ'.n:=λ h=>ai h p;exact⟨(u _ lt.1 U.1).trans s,⟨ep,(u _ lt.2.1 U.2.1).trans d⟩,nd,λ o m=>(u _ (lt.2.2 o m).1 (U.2.2 o m).1).trans (n o m),λ o m=>(u _ (lt.2.2 o m).2 (U.2.2 o m).2).trans (b o m),I,L,λ R l v=>let q:=r R l v;⟨(u _ q.2.2.1 q.2.2.2).trans q.1,q.2.1,up q.2.2.1,q.2.2.2⟩,⟨up lt.1,up lt.2.1,λ o m=>⟨up (lt.2.2 o m).1,up (lt.2.2 o m).2⟩⟩,U,Q,w⟩
def Je{D:Nat}{l:List (Int×V)}{ep:Nat}{k:Int}(h:Y.f D= .dict l ep):d8 Y (.bm .w6) [.ref D,.int k]=some ((l.lookup k).getD .none,Y):=by refine(?_:(match Y.f D with| .dict bJ _=>some ((bJ.lookup k).getD V.none,Y)|_=>none)=_);rw[h]
def Jf{D:Nat}{l:List (Int×V)}{ep:Nat}(h:Y.f D= .dict l ep):kP pg Y (.ref D) 4=some (.bm .w6,[.ref D]):=aF (j7 pg · (.ref D) 4) h
def pQ{S m fa:Nat}{as:List (Nat×V)}(h:Y.f S= .inst 260 as)(T:m≠12)(hm:pg.a9 260 m=some fa):kP pg Y (.ref S) m=some (.glob fa,[.ref S]):=by refine(aF (j7 pg · (.ref S) m) h).trans ?_;refine(?_:(if m=12 then _ else(pg.a9 260 m).map λ fa=>(V.glob fa,[V.ref S]))=_);rw[au T,hm];rfl
def DN{f:Nat->Nat}{keys:aj}{o n m:Nat}(hi:∀x∈keys,∀y∈keys,f x=f y->x=y)(I:∀x∈keys,f x<n)(ne:∀x∈keys,x≠o)(p:n<=m):∀x∈keys++[o],∀y∈keys++[o],upd f o m x=upd f o m y->x=y:=by
 have no:∀{x:Nat},x∈keys->upd f o m x=upd f o m o->False:=λ{x} L e=>by rw[cH _ _ (ne x L),bF]at e;exact az (ai (I x L) p) e
 refine λ x L y T e=>eM L (λ L=>eM T (λ T=> ?_) λ Q=> ?_) λ ex=>eM T (λ T=> ?_) λ Q=>ex.trans Q.symm;rw[cH _ _ (ne x L),cH _ _ (ne y T)]at e;exact hi x L y T e;rw[Q]at e;exact(no L e).elim;rw[ex]at e;exact(no T e.symm).elim
def L3{keys:aj}{A:Nat->Nat}{o n:Nat}(ne:∀x∈keys,x≠o):bJ keys A++[((o:Int),.ref n)]=bJ (keys++[o]) (upd A o n):=by unfold bJ;rw[eG];refine congr (aF HAppend.hAppend (vW λ x L=> ?_)) ?_;rw[cH _ _ (ne x L)];refine(?_:_=[((o:Int),V.ref (upd A o n o))]);rw[bF]
def sQ{keys:aj}{o:Nat}(h:o∈keys):ins keys o=keys:=ar h
def sR{keys:aj}{o:Nat}(h:o∉keys):ins keys o=keys++[o]:=au h
def Jg(H:Hd J){X:Nat->Prop}{S b:Nat}{keys:aj}{A c:Nat->Nat}{np:Nat->Int}{n:Nat->aj}{N:Option (Nat×aj)}{po nf:Int}(v:bl X Y S b keys A c np n N po nf)(o:Nat)(hX:∀i,Y.n<=i->X i)(G:keys.length<1000)(h:∀σ' A' z,bl X σ' S b (ins keys o) A' z np n N po nf->qP X Y σ'->Q (.ref (A' o)) σ'):aJ J (d+3) (.glob c0) [.ref S,.int (o:Int)] [] [] Q Y:=by
 apply eK H _ _;obtain⟨ep,hd⟩:=v.d;have t:Ev J (d+2) (.a9 (.attr (.var 0) 5) 4 [.var 1]) [.ref S,.int (o:Int),.aC] Y (((bJ keys A).lookup (o:Int)).getD .none):=λ K k=>i8 (gQ aB v.s rfl rfl vn) (Jf hd) (w:= .int (o:Int)) aB (c8 rfl (Je hd) k);rw[i9]at t;refine et (t _ ?_);by_cases m:o∈keys;rw[ar m];rw[sQ m]at h;exact h Y A c v (.refl _ _);rw[au m];refine(?_:wSs J pg (d+2) (.assign [.sub (.attr (.var 0) 5) (.var 1),.var 2] (.call (.bT 27) [.var 1] [] [])::[]) _ [.ref S,.int (o:Int),.none] Y);apply et;refine(?_:wE J pg (d+2) (.call (.bT 27) [.var 1] [] []) _ _ _);refine fh (d:=d+1) (a:=163) aB ?_;refine AL H λ r ex n1 y E=> ?_;have M:=v.keep ex.1 λ i hi D=>ex.2 i hi;obtain⟨Zr,f⟩:=M.d;apply gQ (J:=J) (d:=d+2) (o:= .var 0) (k:=5) (B:=[.ref S,.int (o:Int),.none]) aB M.s rfl rfl vn _;refine(?_:opt (qq r (.ref b) (.int (o:Int)) (.ref Y.n)) _);refine cz ((aF (sC r b (o:Int) (.ref Y.n)) f).trans (ar (af (by rw[bJ,a7];exact aa (bo G) dD)))) λ I=> ?_;have ne:∀x∈keys,x≠o:=λ x L e=>m (e▸L);rw[AK (by rw[i9,au m]),L3 ne];refine(?_:Q (.ref Y.n) _);rw[sR m]at h;have u:=M.kinds;have C:=v.lt.2.2;have p:∀x∈keys,A x<r.n/\c x<r.n:=M.lt.2.2;have T:Y.n≠b:=(az v.lt.2.1).symm;have j:Y.n+1≠b:=(az (fF v.lt.2.1)).symm;have g:∀x∈keys,upd A o Y.n x=A x:=λ x L=>cH _ _ (ne x L);have s:∀x∈keys,upd c o (Y.n+1) x=c x:=λ x L=>cH _ _ (ne x L);have:=h (r.set b (.dict (bJ (keys++[o]) (upd A o Y.n)) I)) (upd A o Y.n) (upd c o (Y.n+1)) ⟨aZ u.sd M.s,⟨I,Mem.aR _ _ _⟩,qM v.nd ne,λ x L=>eM L (λ L=> ?_) λ e=> ?_,λ x L=>eM L (λ L=> ?_) λ e=> ?_,
  DN v.iA (λ x L=>(C x L).1) ne (ah _),DN v.iB (λ x L=>(C x L).2) ne (bR _),λ R l U=> ?_,⟨M.lt.1,M.lt.2.1,λ x L=>eM L (λ L=> ?_) λ e=> ?_⟩,⟨v.oE.1,v.oE.2.1,λ x L=>eM L (λ L=> ?_) λ e=> ?_⟩,λ x L=>v.df x λ sj=>L (fH _ sj),by rw[bH];exact G⟩ ((qP.CE ex).trans (.set v.oE.2.1 _))
 rw[bF]at this;exact this;rw[g x L,s x L];exact aZ (u.k x L).ad (M.n x L);rw[e,bF,bF,(v.df o m).1];exact aZ T y;rw[s x L];exact aZ (u.k x L).bd (M.b x L);rw[e,bF,(v.df o m).2];exact aZ j E;have q:=M.r R l U;exact⟨aZ (u.r R l U).2.1 q.1,λ x L=>eM L (λ L=>by rw[s x L];exact q.2.1 x L) (λ e=>by rw[e,bF];exact(az (fF (v.r R l U).2.2.1)).symm),q.2.2⟩;rw[g x L,s x L];exact p x L;rw[e,bF,bF];exact n1▸⟨fF (bz _),bz _⟩;rw[g x L,s x L];exact v.oE.2.2 x L;rw[e,bF,bF];exact⟨hX _ (ah _),hX _ (bR _)⟩
noncomputable def lA(o:Nat)(g:Nat->aj)(p:Nat):Nat->aj:=upd g p (g p++[o])
def bl.DO{X:Nat->Prop}{S D:Nat}{keys:aj}{A B:Nat->Nat}{np:Nat->Int}{g:Nat->aj}{N:Option (Nat×aj)}{po nf:Int}(h:bl X Y S D keys A B np g N po nf){o:Nat}(m:o∈keys)(v:Int):bl X (Y.set (A o) (.node 163 [.int (o:Int),.int v,.ref (B o)])) S D keys A B (upd np o v) g N po nf:=by have u:=h.kinds;obtain⟨s,⟨ep,d⟩,nd,n,b,I,H,r,lt,U,i,w⟩:=h;have t:=u.k o m;refine⟨aZ t.as.symm s,⟨ep,aZ t.ad.symm d⟩,nd,λ x L=> ?_,λ x L=>aZ (t.ab x L).symm (b x L),I,H,λ R l Q=>⟨aZ ((u.r R l Q).2.2 o m).1.symm (r R l Q).1,(r R l Q).2⟩,lt,U,λ x L=> ?_,w⟩;by_cases e:x=o;rw[e,bF];exact Mem.aR _ _ _;rw[cH _ _ e];exact aZ (λ q=>e (I x L o m q)) (n x L);rw[cH _ _ λ e:x=o=>L (e▸m)];exact i x L
def bl.RX{X:Nat->Prop}{S D:Nat}{keys:aj}{A B:Nat->Nat}{np:Nat->Int}{g:Nat->aj}{N:Option (Nat×aj)}{po nf:Int}(h:bl X Y S D keys A B np g N po nf){o:Nat}(m:o∈keys)(l:aj):bl X (Y.set (B o) (.list (nums l))) S D keys A B np (upd g o l) N po nf:=by have u:=h.kinds;obtain⟨s,⟨ep,d⟩,nd,n,b,I,H,r,lt,U,v,w⟩:=h;have t:=u.k o m;refine⟨aZ t.bs.symm s,⟨ep,aZ t.bd.symm d⟩,nd,λ x L=>aZ ((u.k x L).ab o m) (n x L),λ x L=> ?_,I,H,λ R k Q=>⟨aZ ((u.r R k Q).2.2 o m).2.symm (r R k Q).1,(r R k Q).2⟩,lt,U,λ x L=> ?_,w⟩;by_cases e:x=o;rw[e,bF];exact Mem.aR _ _ _;rw[cH _ _ e];exact aZ (λ q=>e (H x L o m q)) (b x L);rw[cH _ _ λ e:x=o=>L (e▸m)];exact v x L
def mU(keys:aj)(o:Nat):o∈ins keys o:=by by_cases h:o∈keys;rw[sQ h];exact h;rw[sR h];exact pH
def DP(keys:aj)(o:Nat):(ins keys o).length<=keys.length+1:=by by_cases h:o∈keys;rw[sQ h];exact bR _;rw[sR h,gJ];exact ah _
def DQ{keys:aj}{o x:Nat}(h:x∈keys):x∈ins keys o:=by by_cases h':o∈keys;rw[sQ h'];exact h;rw[sR h'];exact fH _ h
inductive RY(X:Nat->Prop)(Y:Mem)(S D o:Nat)(bY:aj)(np:Nat->Int)(po nf:Int)(kf:aj)(sf:Nat->aj)(ps:aj)(B:aw)(σ':Mem):Prop where
 |mk (keys:aj) (A a:Nat->Nat) (su:Nat->aj) (v3 v4 v5:V) (hr:B=[.ref S,.int (o:Int),.tuple (nums bY),v3,v4,v5]) (h:bl X σ' S D keys A a np su none po nf) (f:qP X Y σ') (e1:ps.foldl ins keys=kf) (e2:ps.foldl (lA o) su=sf) (hk:keys.length+ps.length<1000) (hs:∀x,(su x).length+ps.length<=1000):RY X Y S D o bY np po nf kf sf ps B σ'
def Jh(H:Hd J){X:Nat->Prop}{S b:Nat}{keys:aj}{A c:Nat->Nat}{np:Nat->Int}{m:Nat->aj}{po nf:Int}(q:bl X Y S b keys A c np m none po nf)(o:Nat)(s:aj)(hX:∀i,Y.n<=i->X i)(u:keys.length+s.length+1<1000)(L:∀x,(m x).length+s.length<=1000)(h:∀σ' A' U,bl X σ' S b (s.foldl ins (ins keys o)) A' U (upd np o (np o+s.length)) (s.foldl (lA o) m) none po nf->qP X Y σ'->Q .none σ'):aJ J (d+4) (.glob bx) (.ref S:: .int (o:Int)::nums s) [] [] Q Y:=by have z:s.length<=1000:=aa (hV _ _) (L 0);refine i0 H _ _ _ (af (by rw[bh];exact aa z dD)) ?_;refine ot false (Ev.cmp (va:= .none) (vb:= .none) (gQ aB q.s rfl rfl vn) aB rfl) nofun (λ D=> ?_);refine ei (et (i8 (v:= .ref S) aB (pQ q.s dD rfl) (w:= .int (o:Int)) aB ?_));refine Jg (d:=d) H q o hX (bt (aa (av _ _) (bR _)) u) λ r n YG M f1=> ?_;refine(?_:wSs J pg (d+3) _ _ [.ref S,.int (o:Int),.tuple (nums s),.ref (n o),.aC,.aC] r);refine Jc (a:= .int (np o)) (v:= .int (np o+s.length)) aB (M.n o (mU keys o)) dD rfl vn (AB (v:= .tuple (nums s)) aB rfl (aF some (bh s)) (aa z dD)) rfl ?_;have T:=M.DO (mU keys o) (np o+s.length);refine pD (λ k:Nat=>V.int (k:Int)) (vi:= .tuple (nums s)) (l:=s) (g:=λ D=>True) aB rfl (RY X Y S b o s (upd np o (np o+s.length)) po nf (s.foldl ins (ins keys o)) (s.foldl (lA o) m)) ⟨_,_,_,m,_,_,_,rfl,T,f1.trans (.set (M.oE.2.2 o (mU keys o)).1 _),rfl,rfl,bt (eH (DP keys o) _) (bt (bO (fD _ 1 _)) u),L⟩ (λ D D D D=>trivial) ?_ ?_;rintro p ps B σ' K ⟨y,A',U,N,C,v4,v5,rfl,h',t,e1,e2,E,G⟩ kk;have f:y.length+1+ps.length<1000:=bt (bO (fD _ 1 _)) E;refine et (i8 (v:= .ref S) aB (pQ h'.s dD rfl) (w:= .int (p:Int)) aB ?_);refine Jg (d:=d) H h' p (λ i hi=>hX i (aa t.1 hi)) (bt (aa (bR _) (av _ _)) f) λ aU VB I j f3=> ?_;have hp:=mU y p;refine dJ (a:=I p) (v:= .int (o:Int)) (rK (vs:=[.int (p:Int),.int (upd np o (np o+s.length) p),.ref (I p)]) aB (j.n p hp) rfl vn) (j.b p hp) (by rw[bh];exact aa (aa (av _ _) (G p)) dD) aB ?_;rw[kC];refine(kk _ _ ⟨_,VB,I,lA o N p,C,_,_,rfl,j.RX hp (N p++[o]),(t.trans f3).trans (.set (j.oE.2.2 p hp).2 _),e1,e2,bt (eH (DP y p) _) f,λ x=> ?_⟩).1;unfold lA;by_cases e:x=p;rw[e,bF,gJ];exact aa (bO (fD _ 1 _)) (G p);rw[cH _ _ e];exact aa (bR _) (G x);rintro B σ' ⟨y,A',U,N,C,v4,v5,rfl,h',t,rfl,rfl,E,G⟩;exact h σ' A' U h' t
noncomputable abbrev zs(l:aj):List Int:=l.map λ o:Nat=>(o:Int)
def uO{l:aj}{o:Nat}:(o:Int)∈zs l↔o∈l:=⟨λ h=>by
 obtain⟨a,C,e⟩:=bV.mp h
 exact Int.ofNat.inj e▸C,λ h=>bV.mpr ⟨o,h,rfl⟩⟩
def yA{n j c:Nat}(h:n+4<=j)(w:c<4):n+c≠j:=λ e=>iI _ (e▸ai (lJ w n) h)
def jB{α I:Type}(g:α->I)(F:List α)(f:α):(F++[f]).map g=F.map g++[g f]:=eG
abbrev vc:=List (Nat×Nat×Nat)
noncomputable def Ji(g:Nat->aj)(f:Nat×Nat×Nat):Nat:=(g f.1).length-f.2.2+1
noncomputable def wY(g:Nat->aj)(xs:aj)(o:Nat):Nat:=bif decide (o∈xs)then 0 else(g o).length+2
noncomputable def Kb(keys:aj)(g:Nat->aj)(R:vc)(xs:aj):Nat:=(keys.map (wY g xs)).sum+(R.map (Ji g)).sum
structure VC(bZ Y:Mem)(B:Nat->Nat)(f:Nat×Nat×Nat):Prop where
 a:Y.f f.2.1= .yQ (B f.1) f.2.2
 b:bZ.n+4<=f.2.1
 c:f.2.1<Y.n
def L4(g:Nat->aj)(xs:aj)(v o:Nat):wY g (xs++[v]) o<=wY g xs o:=by delta wY;by_cases h:o∈xs;rw[af h,af (fH _ h)];exact ah _;refine(cJ h).symm▸?_;cases decide (o∈xs++[v]);exact ah _;exact cI _
def Ph{f g:Nat->Nat}(h:∀o,f o<=g o)(l:aj):(l.map f).sum<=(l.map g).sum:=by induction l with
 |nil=>exact ah _|cons o l z=>exact dS (h o) z
def Jj{f g:Nat->Nat}(h:∀o,f o<=g o){v c:Nat}(w:f v+c<=g v){l:aj}(n:v∈l):(l.map f).sum+c<=(l.map g).sum:=by induction n with
 |head l=>exact aa (bO (fD (f v) (l.map f).sum c)) (dS w (Ph h l))|tail o _ z=>exact aa (bO (fC (f o) _ c)) (dS (h o) z)
def Jk{keys:aj}{g:Nat->aj}{R:vc}{xs:aj}{v j:Nat}(n:v∈keys)(L:v∉xs):Kb keys g ((v,j,0)::R) (xs++[v])<Kb keys g R xs:=by have h:=Jj (L4 g xs v) (v:=v) (c:=(g v).length+2) (by delta wY;rw[cJ L,af pH];exact bO (dy _)) n;refine(?_:((keys.map (wY g (xs++[v]))).sum+(((g v).length+1)+(R.map (Ji g)).sum))<_);rw[<-fC];exact Bc (ai (bz _) h) _
def Jl{keys:aj}{g:Nat->aj}{R:vc}{xs:aj}{o j k:Nat}(h:k<(g o).length):Kb keys g ((o,j,k+1)::R) xs<Kb keys g ((o,j,k)::R) xs:=lJ (Bc (Nat.succ_lt_succ (Nat.sub_lt_sub_left h (bz k))) _) _
def L5{keys:aj}{g:Nat->aj}{R:vc}{xs:aj}{f:Nat×Nat×Nat}:Kb keys g R xs<=Kb keys g (f::R) xs:=mY (hV _ _) _
def eA{α I:Type}(g:α->I)(f:α)(R:List α):(f::R).reverse.map g=R.reverse.map g++[g f]:=by exact nu▸eG
def Ord(g:Nat->aj):aj->Prop
 |[]=>True|v::q=>(∀s∈g v,s∈q)/\Ord g q
def Sk(g:Nat->aj)(d:aj):vc->Nat->Prop
 |[],_=>True|f::R,v=>v∈g f.1/\(∀s∈(g f.1).take f.2.2,s∈d\/s=v)/\Sk g d R f.1
def Tp(g:Nat->aj)(d:aj):vc->Prop
 |[]=>True|f::R=>(∀s∈(g f.1).take f.2.2,s∈d)/\Sk g d R f.1
def Sk.mono{g:Nat->aj}{d:aj}(o:Nat):∀{R:vc}{v:Nat},Sk g d R v->Sk g (o::d) R v
 |[],_,_=>trivial|_::_,_,⟨M,N,j⟩=>⟨M,λ s H=>(N s H).imp (.tail _) id,j.mono o⟩
def Sk.pop{g:Nat->aj}{d:aj}{o:Nat}:∀{R:vc},Sk g d R o->Tp g (o::d) R
 |[],_=>trivial|_::_,⟨_,N,j⟩=>⟨λ s H=>(N s H).elim (.tail _) λ e=>e▸.head _,j.mono o⟩
def Sk.tp{g:Nat->aj}{d:aj}{v:Nat}(n:v∈d):∀{R:vc},Sk g d R v->Tp g d R
 |[],_=>trivial|_::_,⟨_,N,j⟩=>⟨λ s H=>(N s H).elim id λ e=>e▸n,j⟩
def Pj(keys:aj)(g:Nat->aj):Prop:=∃d:aj,Ord g d/\d.Nodup/\∀k∈keys,k∈d
structure DG(bZ Y:Mem)(keys:aj)(a:Nat->Nat)(su:Nat->aj)(R:vc)(bq xs:aj):Prop where
 ex:Ext bZ Y
 n4:bZ.n+4<=Y.n
 ha:Y.f bZ.n= .list (nums (R.reverse.map (·.1)))
 hb:Y.f (bZ.n+1)= .list (R.reverse.map λ f=> .ref f.2.1)
 hs:Y.f (bZ.n+2)= .set (zs xs)
 he:∃ep kv,Y.f (bZ.n+3)= .dict kv ep/\kv.map (·.1)=zs (R.reverse.map (·.1))/\∀p∈kv,∃i:Int,p.2= .int i
 B:∀f∈R,VC bZ Y a f
 nj:(R.map (·.2.1)).Nodup
 no:(R.map (·.1)++bq).Nodup
 xm:∀x,x∈xs↔x∈R.map (·.1)\/x∈bq
 xk:∀x∈xs,x∈keys
 xn:xs.Nodup
 od:Ord su bq
def DG.VD{H Y:Mem}{keys:aj}{B:Nat->Nat}{g:Nat->aj}{R:vc}{d xs:aj}(h:DG H Y keys B g R d xs):xs.length<=keys.length:=h.xn.length_le_of_subset λ x L=>h.xk x L
def DG.sub{H Y:Mem}{keys:aj}{B:Nat->Nat}{g:Nat->aj}{R:vc}{d xs:aj}(h:DG H Y keys B g R d xs):∀f∈R,f.1∈xs:=λ f hf=>(h.xm _).mpr (.inl (bV.mpr ⟨f,hf,rfl⟩))
def DG.fl{H Y:Mem}{keys:aj}{B:Nat->Nat}{g:Nat->aj}{R:vc}{d xs:aj}(h:DG H Y keys B g R d xs):R.length<=keys.length:=by have:=(List.nodup_append.mp h.no).1.length_le_of_subset λ x L=>h.xk x ((h.xm x).mpr (.inl L));rw[a7]at this;exact this
def DG.W5{H Y:Mem}{keys:aj}{B:Nat->Nat}{g:Nat->aj}{R:vc}{d xs:aj}(h:DG H Y keys B g R d xs):R.reverse.length<=keys.length:=by refine nK.symm▸?_;exact h.fl
def yB{p q:Prop}[Decidable p][Decidable q](h:p↔q):decide p=decide q:=by by_cases hp:p;exact(af hp).symm▸(af (h.mp hp)).symm▸rfl;exact(cJ hp).symm▸(cJ λ o=>hp (h.mpr o)).symm▸rfl
def Jm{i:Nat}{xs:aj}{o:Nat}(h:Y.f i= .set (zs xs)):qm Y .In (.int (o:Int)) (.ref i)=some (decide (o∈xs)):=(aF (Qo · (o:Int)) h).trans (aF some (yB uO))
def wZ{α:Type}{l:List (Int×α)}{k:Int}(h:k∈l.map (·.1)):(l.lookup k).isSome=true:=by induction l with
 |nil=>exact mn h|cons p l z=>rw[fm];by_cases e:k=p.1;refine(cZ.mpr e).symm▸?_;rfl;exact iN e▸z ((aT.mp h).resolve_left e)
def uP{α:Type}{l:List (Int×α)}{k:Int}(h:k∉l.map (·.1)):l.lookup k=none:=by induction l with
 |nil=>rfl|cons p l z=>rw[fm,iN λ e:k=p.1=>h (by exact e▸.head _)];exact z λ m=>h (.tail _ m)
def Jn{i ep:Nat}{u:List (Int×V)}{k:Int}(h:Y.f i= .dict u ep)(L:k∉u.map (·.1)):qm Y .In (.int k) (.ref i)=some false:=(aF (Qo · k) h).trans (aF (λ o=>some (Option.isSome o)) (uP L))
def Jo{α I:Type}(g:α->I)(F:List α)(f:α):((F++[f]).map g).dropLast=F.map g:=by rw[jB];exact List.dropLast_concat
def DG.W6{H Y:Mem}{keys:aj}{B:Nat->Nat}{m:Nat->aj}{R:vc}{f:Nat×Nat×Nat}{d xs:aj}(h:DG H Y keys B m (f::R) d xs):∀g∈R,g.2.1≠f.2.1:=λ g U e=>(gR.mp h.nj).1 (bV.mpr ⟨g,U,e⟩)
def DG.top{H Y:Mem}{keys:aj}{B:Nat->Nat}{m:Nat->aj}{R:vc}{o j k:Nat}{d xs:aj}(h:DG H Y keys B m ((o,j,k)::R) d xs):DG H (Y.set j (.yQ (B o) (k+1))) keys B m ((o,j,k+1)::R) d xs:=by have T:=h.B _ (.head _);have e:∀{α:Type}(g:Nat×Nat×Nat->α),g (o,j,k)=g (o,j,k+1)->((o,j,k)::R).reverse.map g=((o,j,k+1)::R).reverse.map g:=λ g e=>(eA g _ R).trans ((aF (λ x=>R.reverse.map g++[x]) e).trans (eA g _ R).symm);obtain⟨ep,u,he,U,Q⟩:=h.he;exact⟨h.ex.set (aa (av _ 4) T.b) _,h.n4,aZ (yA (c:=0) T.b dD) (h.ha.trans (aF (λ l=>O.list (nums l)) (e (·.1) rfl))),aZ (yA T.b dD) (h.hb.trans (aF O.list (e (λ f=>V.ref f.2.1) rfl))),aZ (yA T.b dD) h.hs,⟨ep,u,aZ (yA T.b dD) he,U.trans (aF (λ l=>zs l) (e (·.1) rfl)),Q⟩,sZ.mpr ⟨⟨Mem.aR _ _ _,T.b,T.c⟩,λ f hf=>let g:=h.B f (.tail _ hf);⟨aZ (h.W6 f hf) g.a,g.b,g.c⟩⟩,h.nj,h.no,h.xm,h.xk,h.xn,h.od⟩
def DG.pop{H Y:Mem}{keys:aj}{B:Nat->Nat}{m:Nat->aj}{R:vc}{o j k:Nat}{d xs:aj}(h:DG H Y keys B m ((o,j,k)::R) d xs)(hd:∀s∈m o,s∈d){E:Nat}{u:List (Int×V)}(M:u.map (·.1)=zs (((o,j,k)::R).reverse.map (·.1)))(Q:∀p∈u,∃i:Int,p.2= .int i):DG H ((((Y.set j .dead).set H.n (.list (nums (((o,j,k)::R).reverse.map (·.1))).dropLast)).set (H.n+3) (.dict (u.filter λ u=> !decide (u.1=(o:Int))) E)).set (H.n+1) (.list (((o,j,k)::R).reverse.map λ f=>V.ref f.2.1).dropLast)) keys B m R (o::d) xs:=by
 have T:=h.B _ (.head _);have no:(o::(R.map (·.1)++d)).Nodup:=h.no;have w:(u.filter λ u=> !decide (u.1=(o:Int))).map (·.1)=zs (R.reverse.map (·.1)):=by refine(List.filter_map (f:=λ p:Int×V=>p.1) (p:=λ y=> !decide (y=(o:Int))) (l:=u)).symm.trans ?_;rw[M,eA,zs,jB,jH,List.filter_eq_self.mpr λ y A=> ?_];refine(show List.filter (λ y:Int=> !decide (y=(o:Int))) [(((o,j,k):Nat×Nat×Nat).1:Int)]=[] by rw[gS,af rfl];rfl).symm▸?_;exact dw _;obtain⟨z,U,rfl⟩:=bV.mp A;rw[cJ λ e:(z:Int)=(o:Int)=> ?_];rfl;rw[Int.ofNat.inj e,List.map_reverse]at U;exact(gR.mp no).1 (fH _ (qe.mp U))
 have N:(nums (((o,j,k)::R).reverse.map (·.1))).dropLast=nums (R.reverse.map (·.1)):=by rw[eA];exact Jo _ _ _
 have t:(((o,j,k)::R).reverse.map λ f=>V.ref f.2.1).dropLast=R.reverse.map λ f=>V.ref f.2.1:=by rw[eA];exact List.dropLast_concat
 refine⟨((((h.ex.set (aa (av _ 4) T.b) _).set (ah _) _).set (av _ 3) _).set (av _ 1) _),h.n4,aZ (off (a:=0) dD) (aZ (off (a:=0) dD) ((Mem.aR _ _ _).trans (aF O.list N))),(Mem.aR _ _ _).trans (aF O.list t),aZ (off dD) (aZ (off dD) (aZ (off (b:=0) dD) (aZ (yA T.b dD) h.hs))),⟨E,_,aZ (off dD) (Mem.aR _ _ _),w,λ p hp=>Q p (kK.mp hp).1⟩,λ f hf=> ?_,(gR.mp h.nj).2,List.perm_middle.nodup_iff.mpr no,λ x=>(h.xm x).trans ⟨λ e=> ?_,λ e=> ?_⟩,h.xk,h.xn,hd,h.od⟩;have g:=h.B f (.tail _ hf);exact⟨aZ (yA g.b dD).symm (aZ (yA g.b dD).symm (aZ (yA (c:=0) g.b dD).symm (aZ (h.W6 f hf) g.a))),g.b,g.c⟩;exact e.elim (λ e=>(aT.mp e).elim (λ e=> .inr (e▸.head _)) .inl) λ e=> .inr (.tail _ e);exact e.elim (λ e=> .inl (.tail _ e)) λ e=>(aT.mp e).elim (λ e=> .inl (e▸.head _)) .inr
def DG.push{H Y:Mem}{keys:aj}{B:Nat->Nat}{m:Nat->aj}{R:vc}{d xs:aj}(h:DG H Y keys B m R d xs){v:Nat}(n:v∈keys)(L:v∉xs){y:Nat}{u:List (Int×V)}(U:u.map (·.1)=zs (R.reverse.map (·.1)))(Q:∀p∈u,∃i:Int,p.2= .int i)(w:Int):DG H (((((Y.set (H.n+2) (.set (zs (xs++[v])))).alloc (.yQ (B v) 0)).set (H.n+1) (.list ((R.reverse.map λ f=>V.ref f.2.1)++[.ref Y.n]))).set (H.n+3) (.dict (u++[((v:Int),.int w)]) y)).set H.n (.list (nums (R.reverse.map (·.1))++[.int (v:Int)]))) keys B m ((v,Y.n,0)::R) d (xs++[v]):=by refine⟨((((h.ex.set (av _ 2) _).jV _).set (av _ 1) _).set (av _ 3) _).set (ah _) _,jk h.n4,(Mem.aR _ _ _).trans (aF O.list (by rw[eA];exact(jB _ _ _).symm)),aZ (off (b:=0) dD) (aZ (off dD) ((Mem.aR _ _ _).trans (aF O.list (eA (λ f=>V.ref f.2.1) (v,Y.n,0) R).symm))),aZ (off (b:=0) dD) (aZ (off dD) (aZ (off dD) (i7 (Mem.aR _ _ _) (yA h.n4 dD)))),⟨y,_,aZ (off (b:=0) dD) (Mem.aR _ _ _),?_,DH Q ⟨w,rfl⟩⟩,sZ.mpr ⟨⟨aZ (yA (c:=0) h.n4 dD).symm (aZ (yA h.n4 dD).symm (aZ (yA h.n4 dD).symm (Mem.aY _ _))),h.n4,bz _⟩,λ f hf=> ?_⟩,gR.mpr ⟨λ hm=> ?_,h.nj⟩,gR.mpr ⟨λ hm=>L ((h.xm v).mpr (bK.mp hm)),h.no⟩,λ x=>⟨λ L=>eM L (λ L=>((h.xm x).mp L).imp (.tail _) id) λ e=> .inl (e▸.head _),λ e=> ?_⟩,λ x L=>eM L (h.xk x) λ e=>e▸n,qM h.xn λ x G e=>L (e▸G),h.od⟩;rw[eA,jB,U];exact(jB _ _ _).symm;have g:=h.B f hf;exact⟨aZ (yA (c:=0) g.b dD).symm (aZ (yA g.b dD).symm (aZ (yA g.b dD).symm (i7 (aZ (yA g.b dD).symm g.a) (az g.c)))),g.b,fF g.c⟩;obtain⟨f,hf,e⟩:=bV.mp hm;exact az (h.B f hf).c e;rcases e with e|e;rcases aT.mp e with rfl|e;exact pH;exact fH _ ((h.xm x).mpr (.inl e));exact fH _ ((h.xm x).mpr (.inr e))
section
def Jp{α:Type}{step:V->(Fl->aw->Mem->Prop)->aw->Mem->Prop}{g:Mem->Prop}{Q:Fl->aw->Mem->Prop}(e:α->V)(I:List α->aw->Mem->Prop)(U:∀rest B Y,I rest B Y->g Y)(H:∀a rest B Y(K:Fl->aw->Mem->Prop),I (a::rest) B Y->(∀v σ',I rest v σ'->K .next v σ'/\K .cont v σ')->(∀w v σ',Q (.ret w) v σ'->K (.ret w) v σ')->step (e a) K B Y)(he:∀B Y,I [] B Y->Q .next B Y)(l:List α):∀B Y,I l B Y->forLoop step g (l.map e) Q B Y:=by induction l with
 |nil=>exact λ B Y h=>⟨U _ _ _ h,he _ _ h⟩|cons a l z=>exact λ B Y h=>⟨U _ _ _ h,H a l B Y _ h (λ v σ' h'=>⟨z v σ' h',z v σ' h'⟩) λ D D D q=>q⟩
variable{r:List MS}{Q:Fl->aw->Mem->Prop}
def RZ{α:Type}(e:α->V){i:Nat}{it:ME}{body:List MS}{vi:V}{l:List α}{g:Mem->Prop}(hit:Ev J d it B Y vi)(L:jx Y vi=some (false,l.map e,g))(I:List α->aw->Mem->Prop)(q:I l B Y)(U:∀rest B Y,I rest B Y->g Y)(H:∀a rest B Y(K:Fl->aw->Mem->Prop),I (a::rest) B Y->(∀k σ',I rest k σ'->K .next k σ'/\K .cont k σ')->(∀w k σ',Q (.ret w) k σ'->K (.ret w) k σ')->wSs J pg d body K (B.set i (e a)) Y)(he:∀B Y,I [] B Y->wSs J pg d r Q B Y):wSs J pg d (.ir [i] it body::r) Q B Y:=hit _ (cz L (Jp (step:=λ v K B Y=>opt (lX false [i] v B) λ k=>wSs J pg d body K k Y) (Q:=nx J d r Q) e I U H he l B Y q))
inductive Np(J:Cx)(d:Nat)(t:ME)(body yS r:List MS)(Q:Fl->aw->Mem->Prop)(I:Nat->aw->Mem->Prop)(n:Nat)(B:aw)(Y:Mem):Prop where
 |mk (v:V) (q:Bool) (h1:Ev J d t B Y v) (hv:cQ Y v=some q) (h2:q=true->∀K:Fl->aw->Mem->Prop,(∀m bj σ',m<n->I m bj σ'->K .next bj σ'/\K .cont bj σ')->(∀bj σ',wSs J pg d r Q bj σ'->K .brk bj σ')->(∀w bj σ',Q (.ret w) bj σ'->K (.ret w) bj σ')->wSs J pg d body K B Y) (h3:q=false->wSs J pg d yS (MF (nx J d r Q)) B Y):Np J d t body yS r Q I n B Y
def L6{t:ME}{body e:List MS}(I:Nat->aw->Mem->Prop)(n:Nat)(o:I n B Y)(H:∀n B Y,I n B Y->Np J d t body e r Q I n B Y):wSs J pg d (.gq t body e::r) Q B Y:=et ⟨I,n,o,λ n B Y h=>by
  obtain⟨v,q,M,p,N,j⟩:=H n B Y h
  refine M _ (cz p ?_)
  induction q with
  |true=>exact N rfl _ (λ m i σ' hm hi=>⟨⟨m,hm,hi⟩,⟨m,hm,hi⟩⟩) (λ i σ' w=>w) λ D D D q=>q|false=>exact j rfl⟩
def FK{α:Type}(l:List α)(a:α):(l++[a]).isEmpty=false:=by induction l<;>rfl
noncomputable def Ga(S D n:Nat)(w:V):aw:=[.ref S,.ref D,.ref n,.ref (n+1),.ref (n+2),.ref (n+3),w]
inductive W7(bZ:Mem)(keys:aj)(a:Nat->Nat)(su:Nat->aj)(S D n:Nat)(xs:aj)(m:Nat)(B:aw)(Y:Mem):Prop where
 |mk (R:vc) (bq:aj) (w:V) (hm:m=R.length) (hf:B=Ga S D bZ.n w) (h:DG bZ Y keys a su R bq xs) (hn:Kb keys su R xs<=n) (ht:Tp su bq R):W7 bZ keys a su S D n xs m B Y
def uQ{K:Fl->aw->Mem->Prop}{X:Nat->Prop}{H Y:Mem}{S D:Nat}{keys:aj}{A c:Nat->Nat}{np:Nat->Int}{p:Nat->aj}{G:Option (Nat×aj)}{po nf:Int}(Q:bl X H S D keys A c np p G po nf)(y:∀o∈keys,∀x∈p o,x∈keys){R:vc}{r xs:aj}{w:V}{n:Nat}(h:DG H Y keys c p R r xs)(T:Kb keys p R xs<=n)(I:Tp p r R)(E:∀i t v σ',DG H σ' keys c p i t xs->Kb keys p i xs<n->v∈keys->Sk p t i v->K .next (Ga S D H.n (.int (v:Int))) σ')(l:∀t w σ',DG H σ' keys c p [] t xs->K .brk (Ga S D H.n w) σ'):wSs J pg d [.gq (.var 2) [.mI 6 2 3 5 31] [.brk]] K (Ga S D H.n w) Y:=by
 apply yl (W7 H keys c p S D n xs) _ ⟨R,r,w,rfl,rfl,h,T,I⟩;rintro m B Y ⟨R,r,w,rfl,rfl,h,T,I⟩;have hF:R.reverse.length<=1000:=aa h.W5 Q.kl;have C:∀{α β:Type}(g:(Nat×Nat×Nat)->α)(M:α->β),short ((R.reverse.map g).map M)=true:=λ g M=>af (by rw[a7,a7];exact aa hF dD);refine⟨.ref H.n,!(nums (R.reverse.map (·.1))).isEmpty,λ K k=>k,IZ h.ha (by rw[nums,a7,a7];exact aa hF dD),λ q K' k1 k2=> ?_,λ q=> ?_⟩
 ·induction R with
  |nil=>exact absurd q dD|cons f R=>obtain⟨o,j,k⟩:=f;obtain⟨ep,kv,he,U,Kc⟩:=h.he;have YH:=h.sub _ (.head _);have e:=h.xk o YH;apply et;refine(?_:isList (Y.f H.n) _);refine h.ha.symm▸?_;refine(?_:isList (Y.f (H.n+1)) _);refine h.hb.symm▸?_;refine(?_:Bv (Y.f (H.n+3)) _);refine he.symm▸?_;refine(?_:opt (((o,j,k)::R).reverse.map λ f=>V.ref f.2.1).getLast? _);refine(eA (λ f:Nat×Nat×Nat=>V.ref f.2.1) (o,j,k) R).symm▸(List.getLast?_concat).symm▸?_;refine⟨af (by rw[<-eA (λ f:Nat×Nat×Nat=>V.ref f.2.1) (o,j,k) R,a7];exact aa hF dD),?_⟩;refine(?_:GR (Y.f j) _);refine((h.B _ (.head _)).a).symm▸?_;refine(?_:isList (Y.f (c o)) _);refine((h.ex.2 _ (Q.lt.2.2 o e).2).trans (Q.b o e)).symm▸?_;refine(?_:(match(nums (p o))[k]?with|some v=>_|none=>_));obtain⟨t1,t2⟩:=I;cases u:(nums (p o))[k]?with
  |some v=>rw[nums,gL]at u;obtain⟨x,L,rfl⟩:=dR.mp u;have N:=nr L;refine k2 _ _ (E ((o,j,k+1)::R) r x _ h.top (ai (Jl (List.getElem?_eq_some_iff.mp L).1) T) (y o e x N) ⟨N,λ s C=> ?_,t2⟩);have C:s∈(p o).take (k+1):=C;rw[List.take_add_one,L]at C;exact eM C (λ C=> .inl (t1 s C)) .inr
  |none=>
   refine(?_:opt (nums (((o,j,k)::R).reverse.map (·.1))).getLast? _);have hle:∀s∈p o,s∈r:=λ s C=>t1 s (by
    have z:=List.getElem?_eq_none_iff.mp u
    rw[bh]at z
    refine(?_:s∈(p o).take k)
    refine(lM z).symm▸?_
    exact C)
   have A8:(nums (((o,j,k)::R).reverse.map (·.1))).getLast?=some (.int (o:Int)):=by rw[eA,nums,jB];exact List.getLast?_concat
   refine A8.symm▸?_;have yT:short kv=true:=af (by have:=aF List.length U;rw[a7,zs,a7,a7]at this;exact this▸aa hF dD);have R5:o∈((o,j,k)::R).reverse.map (·.1):=bV.mpr ⟨_,qe.mpr (.head _),rfl⟩;refine⟨?_,λ u6=> ?_⟩;rw[C,yT,wZ (by exact U▸uO.mpr R5),cJ (show H.n≠H.n+1 from off (a:=0) (b:=1) dD)];rfl;refine(eA (λ f:Nat×Nat×Nat=>V.ref f.2.1) (o,j,k) R)▸?_;exact(k1 R.length _ _ (bz _) ⟨R,o::r,w,rfl,rfl,h.pop hle U Kc,aa L5 T,t2.pop⟩).1
 induction R with
 |nil=>exact l r w _ h|cons f R=>rw[eA,nums,jB,FK]at q;exact absurd q dD
end
def L8{o i e:ME}{r:List MS}{Q:Fl->aw->Mem->Prop}{a ep:Nat}{u:List (Int×V)}{k:Int}{v:V}(he:Ev J d e B Y v)(m:Ev J d o B Y (.ref a))(hi:Ev J d i B Y (.int k))(C:Y.f a= .dict u ep)(H:u.length<=100000)(h:∀y,wSs J pg d r Q B (Y.set a (.dict (putD u k v) y))):wSs J pg d (.assign [.sub o i] e::r) Q B Y:=he _ (m _ (hi _ (by
  have w:qq Y (.ref a) (.int k) v=some λ ep=>Y.set a (.dict (putD u k v) ep):=by
   exact(aF (sC Y a k v) C).trans (ar (af H))
  refine(?_:opt (qq Y (.ref a) (.int k) v) _)
  exact w▸h)))
def uR{D ep o:Nat}{keys:aj}{A:Nat->Nat}(h:Y.f D= .dict (bJ keys A) ep)(m:o∈keys):iQ Y (.ref D) (.int (o:Int))=some (.ref (A o)):=by refine(?_:(match Y.f D with| .list vs=>_| .dict bJ _=>_|_=>none)=_);exact h▸(i9 A o keys).trans (ar m)
def FL{u:List (Int×V)}{k:Int}(L:k∈u.map (·.1))(h:∀p∈u,∃i:Int,p.2= .int i):∃i:Int,u.lookup k=some (.int i):=by induction u with
 |nil=>exact absurd L ck|cons p u z=>rw[fm];by_cases e:k=p.1;obtain⟨i,hi⟩:=h p (.head _);exact cZ.mpr e▸⟨i,aF some hi⟩;exact iN e▸z ((aT.mp L).resolve_left e) λ p hp=>h p (.tail _ hp)
inductive W8(Y:Mem)(keys:aj)(a:Nat->Nat)(su:Nat->aj)(S D:Nat)(ks:aj)(B:aw)(σ':Mem):Prop where
 |mk (bq xs:aj) (w:V) (hk:∀k∈ks,k∈keys) (hf:B=Ga S D Y.n w) (h:DG Y σ' keys a su [] bq xs) (hr:∀k∈keys,k∈ks\/k∈xs):W8 Y keys a su S D ks B σ'
inductive W9(Y:Mem)(keys:aj)(a:Nat->Nat)(su:Nat->aj)(S D:Nat)(ks:aj)(v0 n:Nat)(B:aw)(σ':Mem):Prop where
 |mk (R:vc) (bq xs:aj) (v:Nat) (hn:n=Kb keys su R xs) (hf:B=Ga S D Y.n (.int (v:Int))) (h:DG Y σ' keys a su R bq xs) (hv:v∈keys) (hl:Sk su bq R v) (hr:∀k∈keys,k∈ks\/k=v0\/k∈xs) (h0:v0∈xs\/v=v0):W9 Y keys a su S D ks v0 n B σ'
def CF{α:Type}(l:List α)(a b:Option Int):(cg l a b).length<=l.length:=by exact aa (List.length_take_le' _ _) (by exact fk▸iK _ _)
def vN(H:Hd J){X:Nat->Prop}{S g:Nat}{keys:aj}{A j:Nat->Nat}{np:Nat->Int}{T:Nat->aj}{rd:Option (Nat×aj)}{po nf:Int}(q:bl X Y S g keys A j np T rd po nf)(DT:∀o∈keys,∀x∈T o,x∈keys)(h:∀σ',Ext Y σ'->Pj keys T->Q .none σ')(hc:∀σ' vs,Ext Y σ'->(vs:aw)≠[]->vs.length<=100000->Q (.list vs) σ'):aJ J (d+1) (.glob dp) [.ref S] [] [] Q Y:=by
 apply ff H _;obtain⟨YI,hD⟩:=q.d;have y:=q.kl;refine bW (v:= .ref g) (gQ aB q.s rfl rfl vn) ?_;refine r8 (v:= .ref Y.n) (σ':=Y.alloc (.list [])) aB ?_;refine r8 (v:= .ref (Y.n+1)) (σ':=(Y.alloc (.list [])).alloc (.list [])) aB ?_;refine r8 (v:= .ref (Y.n+2)) (σ':=((Y.alloc (.list [])).alloc (.list [])).alloc (.set [])) aB ?_;refine r8 (v:= .ref (Y.n+3)) (σ':=(((Y.alloc (.list [])).alloc (.list [])).alloc (.set [])).alloc (.dict [] 0)) aB ?_;have D0:DG Y ((((Y.alloc (.list [])).alloc (.list [])).alloc (.set [])).alloc (.dict [] 0)) keys j T [] [] []:=
  ⟨((((Ext.alloc Y _).jV _).jV _).jV _),ah _,(Mem.cA _ _ (off (n:=Y.n) (a:=0) (b:=3) dD)).trans ((Mem.cA _ _ (off (n:=Y.n) (a:=0) (b:=2) dD)).trans ((Mem.cA _ _ (off (n:=Y.n) (a:=0) (b:=1) dD)).trans (Mem.aY _ _))),(Mem.cA _ _ (off (n:=Y.n) (a:=1) (b:=3) dD)).trans ((Mem.cA _ _ (off (n:=Y.n) (a:=1) (b:=2) dD)).trans (Mem.aY _ _)),(Mem.cA _ _ (off (n:=Y.n) (a:=2) (b:=3) dD)).trans (Mem.aY _ _),⟨0,[],Mem.aY _ _,rfl,mN⟩,mN,.nil,.nil,λ x=>⟨mn,λ e=>e.elim mn mn⟩,mN,.nil,trivial⟩
 have Xa:∀{σ':Mem}{R:vc}{r xs:aj},DG Y σ' keys j T R r xs->σ'.f g= .dict (bJ keys A) YI:=λ h=>(h.ex.2 _ q.lt.2.1).trans hD;have R6:((bJ keys A).map (·.1)).map V.int=nums keys:=by skip;refine fo.symm▸fo.symm▸?_;rfl
 refine RZ (λ k:Nat=>V.int (k:Int)) (vi:= .ref g) (l:=keys) aB ((aF (zv g) (Xa D0)).trans (aF (λ l=>some (false,l,_)) R6)) (W8 Y keys j T S g) ⟨[],[],.aC,λ D h=>h,rfl,D0,λ k u=> .inl u⟩ ?_ ?_ ?_;rintro rest B σ' ⟨r,xs,w,D,D,M,D⟩;exact⟨_,Xa M,rfl⟩;rintro U ks B aX K ⟨r,xs,w,Xb,rfl,M,hr⟩ kk kr;have YJ:U∈keys:=Xb U (.head _);have next:∀w σ' t L,DG Y σ' keys j T [] t L->(∀k∈keys,k∈ks\/k=U\/k∈L)->U∈L->K .next (Ga S g Y.n w) σ'/\K .cont (Ga S g Y.n w) σ':=λ w σ' t L N RG G=>kk _ _ ⟨t,L,w,λ k u=>Xb k (.tail _ u),rfl,N,λ k u=>(RG k u).imp id λ e=>e.elim (λ e=>e▸G) id⟩
 have Xc:∀k∈keys,k∈ks\/k=U\/k∈xs:=λ k u=>(hr k u).elim (λ m=>(aT.mp m).elim (λ e=> .inr (.inl e)) .inl) λ m=> .inr (.inr m);refine(?_:wSs J pg d _ K (Ga S g Y.n (.int (U:Int))) aX);refine ot (decide (U∈xs)) (Ev.cmp (va:= .int (U:Int)) (vb:= .ref (Y.n+2)) aB aB (Jm M.hs)) (λ e=>(next _ _ r xs M Xc (ae e)).2) (λ D=> ?_);apply ei;apply L6 (W9 Y keys j T S g ks U) _ ⟨[],r,xs,U,rfl,rfl,M,YJ,trivial,Xc,.inr rfl⟩;rintro n B p ⟨R,r,xs,v,rfl,rfl,hd,I,Xd,VE,Xe⟩;refine⟨.bool true,true,λ K k=>k,rfl,λ D K' k1 k2 k3=> ?_,nt⟩;have L7:∀L,(∀k∈keys,k∈ks\/k=U\/k∈L)->U∈L->∀t w σ',DG Y σ' keys j T [] t L->K' .brk (Ga S g Y.n w) σ':=λ L RG G t w σ' N=>k2 _ _ (next w _ t L N RG G).1;obtain⟨ep,kv,he,E,Kc⟩:=hd.he;have OC:R.reverse.length<=1000:=aa hd.W5 y;refine ot (decide (v∈xs)) (Ev.cmp (va:= .int (v:Int)) (vb:= .ref (Y.n+2)) aB aB (Jm hd.hs)) (λ C=> ?_) (λ C=> ?_);have C:v∈xs:=ae C;have R7:U∈xs:=Xe.elim id λ e=>e▸C;by_cases hm:(v:Int)∈kv.map (·.1);have UR:qm p .In (.int (v:Int)) (.ref (Y.n+3))=some true:=(aF (Qo · (v:Int)) he).trans (aF some (wZ hm));refine ot true (Ev.cmp (va:= .int (v:Int)) (vb:= .ref (Y.n+3)) aB aB UR) (λ D=> ?_) nt;obtain⟨i,hi⟩:=FL hm Kc;have Cc:iQ p (.ref (Y.n+3)) (.int (v:Int))=some (.int i):=by refine(?_:(match p.f (Y.n+3)with| .list vs=>_| .dict bJ _=>_|_=>none)=_);exact he▸hi
 have z:(nums (R.reverse.map (·.1))).length<=1000:=by rw[nums,a7,a7];exact OC
 have xo:=CF (nums (R.reverse.map (·.1))) (some i) none;have F9:(cg (nums (R.reverse.map (·.1))) (some i) none++[V.int (v:Int)]).length<=1001:=by exact bH▸gK (aa xo z)
 refine O5 (v:= .list (cg (nums (R.reverse.map (·.1))) (some i) none++[.int (v:Int)])) (Ev.bin (va:= .list (cg (nums (R.reverse.map (·.1))) (some i) none)) (vb:= .list [.int (v:Int)]) (mA (vo:= .ref Y.n) (l:=some i) (h:=none) aB (λ K k=>c9 (Ev.sub (va:= .ref (Y.n+3)) (vb:= .int (v:Int)) aB aB Cc) k) (λ K k=>pO k) ?_) aB ?_) (k3 _ _ _ (kr _ _ _ (hc _ _ hd.ex (λ e=> ?_) (aa F9 dD))));refine(?_:(match(p.f Y.n).eI with|some vs=>if decide (vs.length<=1000000)then some (V.list (cg vs (some i) none))else none|none=>none)=_);exact hd.ha▸ar (af (aa z dD));exact ar (af (by rw[bH]at F9;exact aa F9 dD));have:=aF List.length e;rw[bH]at this;exact Nat.noConfusion this;have YK:v∈r:=((hd.xm v).mp C).resolve_left λ m=>hm (by
  refine E.symm▸?_
  refine uO.mpr ?_
  exact List.map_reverse▸qe.mpr m)
 refine ot false (Ev.cmp (va:= .int (v:Int)) (vb:= .ref (Y.n+3)) aB aB (Jn he hm)) nofun (λ D=> ?_);apply wR;exact uQ q DT hd (ah _) (Xd.tp YK) (λ R' t v' σ' N hp G jM=>(k1 _ _ _ hp ⟨R',t,xs,v',rfl,rfl,N,G,jM,VE,.inl R7⟩).1) (L7 xs VE R7);have C:v∉xs:=of_decide_eq_false C;have YL:(v:Int)∉kv.map (·.1):=λ hm=>C ((hd.xm v).mpr (.inl (by
  rw[E]at hm
  have hm:=uO.mp hm
  rw[List.map_reverse]at hm
  exact qe.mp hm)))
 have Ma:d8 p (.bm .yZ) [.ref (Y.n+2),.int (v:Int)]=some (.none,p.set (Y.n+2) (.set (zs (xs++[v])))):=by refine(?_:(match p.f (Y.n+2)with| .set xs=>if decide (xs.length<=1000)then _ else none|_=>none)=_);refine hd.hs.symm▸?_;refine(ar (af (by rw[zs,a7];exact aa hd.VD y))).trans ?_;rw[au λ hm=>C (uO.mp hm),zs,zs,jB]
 apply et;refine i8 (v:= .ref (Y.n+2)) aB (aF (j7 pg · (.ref (Y.n+2)) 5) hd.hs) (w:= .int (v:Int)) aB ?_;apply kZ Ma;refine(?_:wSs J pg d _ _ (Ga S g Y.n (.int (v:Int))) (p.set (Y.n+2) (.set (zs (xs++[v])))));have VG:Ext Y (p.set (Y.n+2) (.set (zs (xs++[v])))):=hd.ex.set (av _ 2) _;have R9:Ev J d (.slot (.sub (.var 1) (.var 6)) 2) (Ga S g Y.n (.int (v:Int))) (p.set (Y.n+2) (.set (zs (xs++[v])))) (.ref (j v)):=
  rK (Ev.sub (va:= .ref g) (vb:= .int (v:Int)) aB aB (uR ((VG.2 _ q.lt.2.1).trans hD) I)) ((VG.2 _ (q.lt.2.2 v I).1).trans (q.n v I)) rfl vn
 have hb:(p.set (Y.n+2) (.set (zs (xs++[v])))).f (Y.n+1)= .list (R.reverse.map λ f=>V.ref f.2.1):=aZ (off dD) hd.hb;refine DF (a:=Y.n+1) (vs:=R.reverse.map λ f=> .ref f.2.1) (v:= .ref p.n) (σ':=(p.set (Y.n+2) (.set (zs (xs++[v])))).alloc (.yQ (j v) 0)) aB hb (i7 hb (yA hd.n4 dD)) (by rw[a7];exact aa OC dD) (λ K k=> ?_) ?_;refine(?_:wE J pg d (.slot (.sub (.var 1) (.var 6)) 2) _ _ _);apply Cu R9;refine(?_:opt ((p.set (Y.n+2) (.set (zs (xs++[v])))).f (j v)).eI _);exact(VG.2 _ (q.lt.2.2 v I).2).trans (q.b v I)▸k;have mh:(((p.set (Y.n+2) (.set (zs (xs++[v])))).alloc (.yQ (j v) 0)).set (Y.n+1) (.list ((R.reverse.map λ f=>V.ref f.2.1)++[.ref p.n]))).f Y.n= .list (nums (R.reverse.map (·.1))):=aZ (off (a:=0) dD) (i7 (aZ (off (a:=0) dD) hd.ha) (yA (c:=0) hd.n4 dD));have z:(nums (R.reverse.map (·.1))).length<=1000:=by rw[nums,a7,a7];exact OC
 have y:kv.length<=1000:=by have:=aF List.length E;rw[a7,zs,a7,a7]at this;exact this▸OC
 refine L8 (a:=Y.n+3) (AB (v:= .ref Y.n) aB rfl (aF Kt mh) (aa z dD)) aB aB (aZ (off dD) (i7 (aZ (off dD) he) (yA hd.n4 dD))) (aa y dD) λ u6=> ?_;refine(AK (uP YL)).symm▸?_;refine dJ (a:=Y.n) (v:= .int (v:Int)) aB (aZ (off (a:=0) dD) mh) (aa z dD) aB ?_;apply ei;have Xf:∀k∈keys,k∈ks\/k=U\/k∈xs++[v]:=λ k u=>(VE k u).imp id λ e=>e.imp id (fH _);have Xg:U∈xs++[v]:=Xe.elim (fH _) λ e=>e▸pH;exact uQ q DT (hd.push I C E Kc _) (bo (Jk I C)) ⟨(λ s hs=>mn hs),Xd⟩ (λ R' t v' σ' N hp G jM=>(k1 _ _ _ hp ⟨R',t,xs++[v],v',rfl,rfl,N,G,jM,Xf,.inl Xg⟩).1) (L7 (xs++[v]) Xf Xg);rintro B σ' ⟨r,xs,w,D,rfl,M,hr⟩;exact h σ' M.ex ⟨r,M.od,M.no,λ k u=>((M.xm k).mp ((hr k u).resolve_left mn)).resolve_left mn⟩
def yE{e:ME}{K:Bool->Mem->Prop}{v:V}{q:Bool}(he:Ev J d e B Y v)(n:cQ Y v=some q)(k:K q Y):wTs J pg d [e] K B Y:=he _ (cz n (by induction q<;>exact k))
def Ev.values{o:ME}{i:Nat}(m:Ev J d o B Y (.ref i)):Ev J d (.values o) B Y (.lh i):=λ K k=>by refine(?_:wE J pg d o (λ v Y=>match v with| .ref i=>K (.lh i) Y|_=>False) B Y);exact m _ k
def bl.Pk{X:Nat->Prop}{S D:Nat}{keys:aj}{A B:Nat->Nat}{np:Nat->Int}{g:Nat->aj}{N:Option (Nat×aj)}{po nf:Int}(h:bl X Y S D keys A B np g N po nf)(v:Option (Nat×aj))(H x:Int)(Q:∀R l,v=some (R,l)->Y.f R= .list (nums l)/\(∀o∈keys,B o≠R)/\R<Y.n/\X R):bl X (Y.set S (.inst 260 [(5,.ref D),(6,W2 v),(7,.int H),(8,.int x)])) S D keys A B np g v H x:=by have u:=h.kinds;obtain⟨s,⟨ep,d⟩,nd,n,b,I,L,r,lt,U,q,w⟩:=h;exact⟨Mem.aR _ _ _,⟨ep,aZ u.sd.symm d⟩,nd,λ o m=>aZ (u.k o m).as (n o m),λ o m=>aZ (u.k o m).bs (b o m),I,L,λ R l e=>⟨aZ (other (Q R l e).1 s od) (Q R l e).1,(Q R l e).2⟩,lt,U,q,w⟩
def bl.Sa{X:Nat->Prop}{S D:Nat}{keys:aj}{A B:Nat->Nat}{np:Nat->Int}{g:Nat->aj}{R:Nat}{l:aj}{po nf:Int}(h:bl X Y S D keys A B np g (some (R,l)) po nf)(k:aj):bl X (Y.set R (.list (nums k))) S D keys A B np g (some (R,k)) po nf:=by have c:=h.kinds.r R l rfl;obtain⟨s,⟨ep,d⟩,nd,n,b,I,u,r,lt,U,Q,w⟩:=h;exact⟨aZ c.1.symm s,⟨ep,aZ c.2.1.symm d⟩,nd,λ o m=>aZ (c.2.2 o m).1 (n o m),λ o m=>aZ (c.2.2 o m).2 (b o m),I,u,λ q v e=>by obtain⟨rfl,rfl⟩:=dX (aN e);exact⟨Mem.aR _ _ _,(r R l rfl).2⟩,lt,U,Q,w⟩
noncomputable abbrev g9(keys:aj)(np:Nat->Int):aj:=keys.filter λ o=>np o==0
def CG(H:Hd J){Z:Nat->Mem->Prop}{X:Nat->Prop}{S a:Nat}{keys:aj}{A b:Nat->Nat}{np:Nat->Int}{g:Nat->aj}{po nf:Int}(c:bl X Y S a keys A b np g none po nf)(M:∀o∈keys,∀x∈g o,x∈keys)(hX:∀i,Y.n<=i->X i)(h:∀σ' R,bl X σ' S a keys A b np g (some (R,g9 keys np)) po nf->qP X Y σ'->Pj keys g->Q .none σ')(s:∀σ' R,bl X σ' S a keys A b np g (some (R,g9 keys np)) po nf->qP X Y σ'->Z 178 σ'):rb J (d+2) (.glob d0) [.ref S] Q Z Y:=by
 apply gB H _;obtain⟨ep,U⟩:=c.d;have N:=c.kl;refine ot false (Ev.cmp (va:= .none) (vb:= .none) (gQ aB c.s rfl rfl vn) aB rfl) nofun (λ D=> ?_);apply ei;have z:∀ks:aj,ks.flatMap (λ o=>if np o==0 then[V.int (o:Int)]else[])=nums (g9 ks np):=by intro ks;induction ks with
  |nil=>rfl|cons k ks y=>rw[List.flatMap_cons,y];unfold g9;rw[gS];by_cases e:np k==0;rw[ar e,ar e];rfl;rw[au e,au e];rfl
 have hlen:(nums (g9 keys np)).length<=1000:=by rw[bh];exact aa (qf (λ o=>np o==0) keys) N
 refine fZ (i:=S) (C:=260) (as:=[(5,.ref a),(6,.none),(7,.int po),(8,.int nf)]) (v:= .ref Y.n) (σ':=Y.alloc (.list (nums (g9 keys np)))) (λ K k=> ?_) aB (i7 c.s (az c.lt.1)) rfl dD (by decide:4<=100) ?_;have j:Ev J (d+1) (.attr (.var 0) 5) [.ref S,.aC,.aC] Y (.ref a):=gQ aB c.s rfl rfl vn;have hit:jx Y (.lh a)=some (false,keys.map (λ o=>V.ref (A o)),λ σ'=>σ'.f a= .dict (bJ keys A) ep):=by refine(?_:(match Y.f a with| .dict bJ ep=>some (false,bJ.map (λ x:Int×V=>x.2),λ σ':Mem=>σ'.f a=O.dict bJ ep)|_=>none)=_);rw[U];exact aF (λ l=>some (false,l,_)) fo
 refine kA j.values hit (eu (λ o=>V.ref (A o)) (λ o=>if np o==0 then[V.int (o:Int)]else[]) (λ σ'=>σ'=Y) (λ σ' e=>by exact e▸U) keys [] Y (λ o w L σ' e m=> ?_) rfl (by rw[iM,z];exact aa hlen dD) λ σ' e=> ?_);subst e;have m:=m _ rfl;have p:=c.n o w;refine yE (B:=[.ref S,.ref (A o),.aC]) (Ev.cmp (va:= .int (np o)) (q:=np o==0) (rK (i:=A o) aB p rfl vn) aB rfl) rfl ?_;cases s:(np o==0)with
 |false=>rw[s]at m;exact m|true=>rw[s]at m;exact Cu (v:= .int (o:Int)) (rK (i:=A o) aB p rfl vn) m
 subst e;rw[iM,z];exact⟨af (aa hlen dD),k⟩;have G:bl X (Y.alloc (.list (nums (g9 keys np)))) S a keys A b np g none po nf:=c.keep (bR _) λ i hi D=>Mem.cA _ _ (az hi);have r:=G.Pk (some (Y.n,g9 keys np)) po nf (λ R l e=>by
  obtain⟨rfl,rfl⟩:=dX (aN e)
  exact⟨Mem.aY _ _,λ o w=>az (c.lt.2.2 o w).2,bz _,hX _ (ah _)⟩)
 have f2:qP X Y ((Y.alloc (.list (nums (g9 keys np)))).set S (.inst 260 [(5,.ref a),(6,.ref Y.n),(7,.int po),(8,.int nf)])):=(qP.CE (.alloc _ _)).trans (.set c.oE.1 _);apply et;refine my (v:= .ref S) aB (pQ r.s dD rfl) ?_;have fin:∀{σ':Mem},Ext ((Y.alloc (.list (nums (g9 keys np)))).set S (.inst 260 [(5,.ref a),(6,.ref Y.n),(7,.int po),(8,.int nf)])) σ'->bl X σ' S a keys A b np g (some (Y.n,g9 keys np)) po nf/\qP X Y σ':=λ ex=>⟨r.keep ex.1 λ i hi D=>ex.2 i hi,f2.trans (.CE ex)⟩;refine vN (d:=d) H r M (λ σ' ex ac=> ?_) λ σ' vs ex n I=> ?_;refine LR .none false aB rfl nofun (λ D=> ?_);exact h σ' Y.n (fin ex).1 (fin ex).2 ac;have u:cQ σ' (.list vs)=some true:=by refine(?_:(if decide (vs.length<=1000000)then some (!vs.isEmpty)else none)=_);rw[ar (af (aa I dD))];induction vs with
  |nil=>exact absurd rfl n|cons v vs=>rfl
 refine LR (.list vs) true aB u (λ D=> ?_) nt;exact et ⟨⟨rfl,⟨_,rfl⟩⟩,rfl,s σ' Y.n (fin ex).1 (fin ex).2⟩
noncomputable def pR(np:Nat->Int)(l:aj)(v:Int):Nat->Int:=l.foldl (λ np o=>upd np o v) np
noncomputable def dq(x:(Nat->Int)×aj)(s:Nat):(Nat->Int)×aj:=(upd x.1 s (x.1 s-1),if x.1 s-1==0 then x.2++[s]else x.2)
noncomputable def jC(g:Nat->aj)(x:(Nat->Int)×aj)(o:Nat):(Nat->Int)×aj:=(g o).foldl dq (upd x.1 o (-2),x.2)
def yF(g:Nat->aj):(Nat->Int)×aj->aj->Prop
 |_,[]=>True|x,o::os=>x.1 o= -1/\yF g (jC g x o) os
def Pl{R:Nat}{vs:aw}(h:Y.f R= .list vs)(I:vs.length<=100000):d8 Y (.ty .tuple) [.ref R]=some (.tuple vs,Y):=by refine(?_:(match(Y.f R).eI with|some vs=>if short vs then some (V.tuple vs,Y)else none|none=>none)=_);exact h▸ar (af I)
def Pm{R:Nat}{vs:aw}(h:Y.f R= .list vs)(I:vs.length<=100000):d8 Y (.bm .lR) [.ref R]=some (.none,Y.set R (.list [])):=by refine(?_:(match Y.f R with| .list vs=>if short vs then _ else none|_=>none)=_);exact h▸ar (af I)
def Jr{X:Nat->Prop}{S D R:Nat}{keys l:aj}{A a:Nat->Nat}{np:Nat->Int}{g:Nat->aj}{po nf:Int}(h:bl X Y S D keys A a np g (some (R,l)) po nf)(hf:B[0]? =some (.ref S)):Ev J d (.attr (.var 0) 6) B Y (.ref R):=gQ (qK hf vn) h.s rfl rfl vn
def yG{a b r:List MS}{Q:Fl->aw->Mem->Prop}{X:Nat->Prop}{S c R:Nat}{keys l:aj}{A e:Nat->Nat}{np:Nat->Int}{g:Nat->aj}{po nf:Int}(h:bl X Y S c keys A e np g (some (R,l)) po nf)(hf:B[0]? =some (.ref S))(k:wSs J pg d b (nx J d r Q) B Y):wSs J pg d (.dC (.cmp .Is (.attr (.var 0) 6) (.lit .none)) a b::r) Q B Y:=ot false (Ev.cmp (va:= .ref R) (vb:= .none) (Jr h hf) aB rfl) nofun λ D=>k
inductive Xj(X:Nat->Prop)(Y:Mem)(S D R:Nat)(keys l:aj)(A a:Nat->Nat)(np:Nat->Int)(su:Nat->aj)(po nf:Int)(l':aj)(B:aw)(σ':Mem):Prop where
 |mk (kH:Nat->Int) (v3:V) (hr:B=[.ref S,.tuple (nums l),.ref D,v3]) (h:bl X σ' S D keys A a kH su (some (R,l)) po nf) (f:qP X Y σ') (n:σ'.n=Y.n) (e:pR kH l' (-1)=pR np l (-1)) (hk:∀o∈l',o∈keys):Xj X Y S D R keys l A a np su po nf l' B σ'
def yH(H:Hd J){X:Nat->Prop}{S c R:Nat}{keys l:aj}{A f:Nat->Nat}{np:Nat->Int}{n:Nat->aj}{po nf:Int}(q:bl X Y S c keys A f np n (some (R,l)) po nf)(I:l.length<=100000)(u:∀o∈l,o∈keys)(h:∀σ',bl X σ' S c keys A f (pR np l (-1)) n (some (R,[])) (po+l.length) nf->qP X Y σ'->σ'.n=Y.n->Q (.tuple (nums l)) σ'):aJ J (d+1) (.glob dF) [.ref S] [] [] Q Y:=by
 apply fU H _;have p:(nums l).length<=100000:=by rw[bh];exact I
 refine yG q rfl (ei ?_);refine bW (v:= .tuple (nums l)) (pE (b:= .ty .tuple) (w:= .ref R) aB rfl (cF.one rfl (Jr q rfl)) (Pl (q.r R l rfl).1 p)) ?_;refine bW (v:= .ref c) (gQ aB q.s rfl rfl vn) ?_;refine pD (λ k:Nat=>V.int (k:Int)) (vi:= .tuple (nums l)) (l:=l) (g:=λ D=>True) aB rfl (Xj X Y S c R keys l A f np n po nf) ⟨np,.aC,rfl,q,.refl _ _,rfl,rfl,u⟩ (λ D D D D=>trivial) ?_ ?_;rintro o G B σ' K ⟨s,L,rfl,h',t,U,M,E⟩ kk;have m:=E o (.head _);obtain⟨ep,z⟩:=h'.d;refine mB (i:=A o) (vs:=[.int (o:Int),.int (s o),.ref (f o)]) (v:= .int (-1)) aB (Ev.sub (va:= .ref c) (vb:= .int (o:Int)) aB aB (uR z m)) (h'.n o m) dD ?_;exact(kk _ _ ⟨upd s o (-1),_,rfl,h'.DO m (-1),t.trans (.set (h'.oE.2.2 o m).1 _),U,M,λ x y=>E x (.tail _ y)⟩).1;rintro B σ' ⟨s,L,rfl,h',t,U,M,E⟩;have M:s=_:=M;subst M;refine et (my (Jr h' rfl) (aF (j7 pg · (.ref R) 3) (h'.r R l rfl).1) ?_);apply c8 (J:=J) (d:=d) rfl (Pm (h'.r R l rfl).1 p);have N:=h'.Sa [];refine Jd (i:=S) (C:=260) (as:=[(5,.ref c),(6,.ref R),(7,.int po),(8,.int nf)]) (a:= .int po) (b:= .int (l.length:Int)) (v:= .int (po+l.length)) aB N.s rfl dD (by decide:4<=100) rfl vn (AB (v:= .tuple (nums l)) aB rfl (aF some (bh l)) (aa I dD)) rfl ?_;exact h _ (N.Pk (some (R,[])) (po+l.length) nf (λ T G e=>by obtain⟨rfl,rfl⟩:=dX (aN e);exact N.r R [] rfl)) ((t.trans (.set (q.r R l rfl).2.2.2 _)).trans (.set q.oE.1 _)) U
def pS(H:Hd J){X:Nat->Prop}{S D R:Nat}{keys l:aj}{A B:Nat->Nat}{np:Nat->Int}{g:Nat->aj}{po nf:Int}(o:bl X Y S D keys A B np g (some (R,l)) po nf)(I:l.length<=100000)(h:Q (.bool (decide (nf<po)|| !l.isEmpty)) Y):aJ J (d+1) (.glob dG) [.ref S] [] [] Q Y:=by
 apply fV H _;refine yG o rfl (ei ?_);have U:Ev J d (.call (.bT 8) [.attr (.var 0) 6] [] []) [.ref S] Y (.bool (!l.isEmpty)):=pE (b:= .ty .bool) aB rfl (cF.one rfl (Jr o rfl)) (by
  refine(aF (Option.map λ b=>(V.bool b,Y)) (IZ (o.r R l rfl).1 (by rw[bh];exact aa I dD))).trans ?_
  induction l<;>rfl)
 refine O5 (v:= .bool (decide (nf<po)|| !l.isEmpty)) (λ K k=> ?_) h;have key:wE J pg d (.cmp .Lt (.attr (.var 0) 8) (.attr (.var 0) 7)) (λ v Y=>opt (cQ Y v) λ q=>match q with
   |true=>K v Y|false=>wE J pg d (.call (.bT 8) [.attr (.var 0) 6] [] []) K [.ref S] Y) [.ref S] Y:=by
  refine Cu (v:= .bool (decide (nf<po))) (Ev.cmp (va:= .int nf) (vb:= .int po) (gQ aB o.s rfl rfl vn) (gQ aB o.s rfl rfl vn) rfl) ?_;cases e:decide (nf<po)with
  |true=>rw[e]at k;exact k|false=>rw[e]at k;exact U _ k
 exact key
noncomputable def Pn:List MS:=[.assign [.var 7] (.sub (.var 2) (.var 6)),.jv (.var 7) 1 .Sub (.lit (.int 1)),.dC (.cmp .Eq (.slot (.var 7) 1) (.lit (.int 0))) [.expr (.a9 (.attr (.var 0) 6) 0 [.var 6])] []]
def FN(x:(Nat->Int)×aj)(s:Nat):(dq x s).2.length<=x.2.length+1:=by delta dq;cases x.1 s-1==0;exact bR _;exact bO (gJ _ _)
def FO(l:aj):∀x:(Nat->Int)×aj,(l.foldl dq x).2.length<=x.2.length+l.length:=by induction l with
 |nil=>exact λ x=>ah _|cons s l z=>exact λ x=>aa (z (dq x s)) (aa (eH (FN x s) _) (bO (fD _ 1 _)))
inductive Xk(X:Nat->Prop)(Y:Mem)(S D R:Nat)(keys:aj)(A a:Nat->Nat)(su:Nat->aj)(po nf:Int)(v1 v3 v4 v5:V)(fin:(Nat->Int)×aj)(l':aj)(B:aw)(σ':Mem):Prop where
 |mk (np:Nat->Int) (rd:aj) (v6 v7:V) (hr:B=[.ref S,v1,.ref D,v3,v4,v5,v6,v7]) (h:bl X σ' S D keys A a np su (some (R,rd)) po nf) (f:qP X Y σ') (n:σ'.n=Y.n) (e:l'.foldl dq (np,rd)=fin) (hk:∀s∈l',s∈keys) (hl:rd.length+l'.length<=100000):Xk X Y S D R keys A a su po nf v1 v3 v4 v5 fin l' B σ'
def FP{K:Fl->aw->Mem->Prop}{r:List MS}{X:Nat->Prop}{S c R o:Nat}{keys l:aj}{A f:Nat->Nat}{np:Nat->Int}{g:Nat->aj}{po nf:Int}{v1 N j t L:V}(C:bl X Y S c keys A f np g (some (R,l)) po nf)(m:o∈keys)(w:∀s∈g o,s∈keys)(n:l.length+(g o).length<=100000)(h:∀σ' t L,bl X σ' S c keys A f ((g o).foldl dq (np,l)).1 g (some (R,((g o).foldl dq (np,l)).2)) po nf->qP X Y σ'->σ'.n=Y.n->wSs J pg d r K [.ref S,v1,.ref c,N,.ref (A o),j,t,L] σ'):wSs J pg d (.ir [6] (.slot (.var 4) 2) Pn::r) K [.ref S,v1,.ref c,N,.ref (A o),j,t,L] Y:=by refine pD (λ k:Nat=>V.int (k:Int)) (vi:= .ref (f o)) (l:=g o) (rK (i:=A o) aB (C.n o m) rfl vn) (aF (zv (f o)) (C.b o m)) (Xk X Y S c R keys A f g po nf v1 N (.ref (A o)) j ((g o).foldl dq (np,l))) ⟨np,l,_,_,rfl,C,.refl _ _,rfl,rfl,w,n⟩ ?_ ?_ ?_;rintro G B σ' ⟨Q,U,t,L,D,h',D⟩;exact h'.b o m;rintro s G B σ' K' ⟨Q,U,t,L,rfl,h',z,I,M,E,p⟩ kk;have u:=E s (.head _);have T:U.length+1+G.length<=100000:=aa (bO (fD _ 1 _)) p;obtain⟨ep,hD⟩:=h'.d;refine bW (v:= .ref (A s)) (Ev.sub (va:= .ref c) (vb:= .int (s:Int)) aB aB (uR hD u)) ?_;refine Jc (a:= .int (Q s)) (v:= .int (Q s-1)) aB (h'.n s u) dD rfl vn (b:= .int 1) aB rfl ?_;have H:=h'.DO u (Q s-1);have f2:=z.trans (.set (h'.oE.2.2 s u).1 (.node 163 [.int (s:Int),.int (Q s-1),.ref (f s)]));have q:G.foldl dq (dq (Q,U) s)=(g o).foldl dq (np,l):=M;have y:∀x∈G,x∈keys:=λ x hx=>E x (.tail _ hx);refine(?_:wSs J pg d _ K' [.ref S,v1,.ref c,N,.ref (A o),j,.int (s:Int),.ref (A s)] (σ'.set (A s) (.node 163 [.int (s:Int),.int (Q s-1),.ref (f s)])));refine ot (Q s-1==0) (Ev.cmp (va:= .int (Q s-1)) (rK (i:=A s) (vs:=[.int (s:Int),.int (Q s-1),.ref (f s)]) aB (Mem.aR _ _ _) rfl vn) aB rfl) (λ e=> ?_) (λ e=> ?_);refine dJ (a:=R) (v:= .int (s:Int)) (Jr H rfl) (H.r R U rfl).1 (by rw[bh];exact aa (aa (bR _) (av _ _)) T) aB (ei ?_);rw[kC];rw[show dq (Q,U) s=(upd Q s (Q s-1),U++[s]) from aF (Prod.mk _) (ar e)]at q;exact(kk _ _ ⟨_,U++[s],_,_,rfl,H.Sa (U++[s]),f2.trans (.set (h'.r R U rfl).2.2.2 _),I,q,y,by rw[gJ];exact T⟩).1;rw[show dq (Q,U) s=(upd Q s (Q s-1),U) from aF (Prod.mk _) (au (by refine e.symm▸?_;nofun))]at q;exact ei (kk _ _ ⟨_,U,_,_,rfl,H,f2,I,q,y,aa (eH (bR _) _) T⟩).1;rintro B σ' ⟨Q,U,t,L,rfl,h',z,I,M,E,p⟩;have M:(Q,U)=_:=M;rw[<-M]at h;exact h σ' t L h' z I
inductive Xl(X:Nat->Prop)(Y:Mem)(S D R:Nat)(keys nodes:aj)(A a:Nat->Nat)(su:Nat->aj)(po Sb:Int)(fin:(Nat->Int)×aj)(os:aj)(B:aw)(σ':Mem):Prop where
 |mk (np:Nat->Int) (rd:aj) (nf:Int) (v3 v4 v5 v6 v7:V) (hr:B=[.ref S,.tuple (nums nodes),.ref D,v3,v4,v5,v6,v7]) (h:bl X σ' S D keys A a np su (some (R,rd)) po nf) (f:qP X Y σ') (n:σ'.n=Y.n) (e:os.foldl (jC su) (np,rd)=fin) (ok:yF su (np,rd) os) (hk:∀o∈os,o∈keys) (hf:nf+os.length=Sb) (hl:rd.length+1000*os.length<=51000):Xl X Y S D R keys nodes A a su po Sb fin os B σ'
def Mb(H:Hd J){X:Nat->Prop}{S c R:Nat}{keys l nodes:aj}{A f:Nat->Nat}{np:Nat->Int}{m:Nat->aj}{po nf:Int}(G:bl X Y S c keys A f np m (some (R,l)) po nf)(hk:∀o∈nodes,o∈keys)(hs:∀o∈keys,∀s∈m o,s∈keys)(xo:∀o,(m o).length<=1000)(hl:l.length<=1000)(hn:nodes.length<=50)(R4:yF m (np,l) nodes)(h:∀σ',bl X σ' S c keys A f (nodes.foldl (jC m) (np,l)).1 m (some (R,(nodes.foldl (jC m) (np,l)).2)) po (nf+nodes.length)->qP X Y σ'->σ'.n=Y.n->Q .none σ'):aJ J (d+1) (.glob aV) (.ref S::nums nodes) [] [] Q Y:=by refine iy H _ _ (af (by rw[bh];exact aa hn dD)) ?_;refine yG G rfl (ei ?_);refine bW (v:= .ref c) (gQ aB G.s rfl rfl vn) ?_;refine pD (λ k:Nat=>V.int (k:Int)) (vi:= .tuple (nums nodes)) (l:=nodes) (g:=λ D=>True) aB rfl (Xl X Y S c R keys nodes A f m po (nf+nodes.length) (nodes.foldl (jC m) (np,l))) ⟨np,l,nf,_,_,_,_,_,rfl,G,.refl _ _,rfl,rfl,R4,hk,rfl,dS hl (iH 1000 hn)⟩ (λ D D D D=>trivial) ?_ ?_;rintro o os B σ' K ⟨q,M,U,v3,T,j,t,L,rfl,h',r,I,N,Xm,u,E,p⟩ kk;have n:=u o (.head _);obtain⟨z,o2⟩:=Xm;have z:q o= -1:=z;have e2:os.foldl (jC m) (jC m (q,M) o)=nodes.foldl (jC m) (np,l):=N;have p:M.length+1000+1000*os.length<=51000:=aa (bO (by rw[fC,eO 1000];rfl)) p;have E:U+1+(os.length:Int)=nf+nodes.length:=(Int.add_assoc _ _ _).trans ((aF (U+·) (Int.add_comm _ _)).trans E);obtain⟨ep,hD⟩:=h'.d;refine(?_:wSs J pg d _ K [.ref S,.tuple (nums nodes),.ref c,.int (o:Int),T,j,t,L] σ');have FJ:Ev J d (.a9 (.var 2) 4 [.var 3]) [.ref S,.tuple (nums nodes),.ref c,.int (o:Int),T,j,t,L] σ' (.ref (A o)):=λ K k=>i8 (v:= .ref c) aB (Jf hD) (w:= .int (o:Int)) aB (c8 (J:=J) (d:=d) rfl (Je hD) (by rw[i9,ar n];exact k));refine et (FJ _ ?_);refine(?_:wSs J pg d _ K [.ref S,.tuple (nums nodes),.ref c,.int (o:Int),.ref (A o),j,t,L] σ');refine bW (v:= .int (q o)) (rK (i:=A o) aB (h'.n o n) rfl vn) ?_;refine ot false (Ev.cmp (va:= .int (q o)) (vb:= .int (-1)) aB aB (by refine z.symm▸?_;rfl)) nofun (λ D=>ei ?_);refine mB (i:=A o) (vs:=[.int (o:Int),.int (q o),.ref (f o)]) (v:= .int (-2)) aB aB (h'.n o n) dD ?_;have h2:=h'.DO n (-2);have f2:=r.trans (.set (h'.oE.2.2 o n).1 (.node 163 [.int (o:Int),.int (-2),.ref (f o)]));refine FP (o:=o) h2 n (hs o n) (aa (mY (xo o) _) (aa (av _ _) (aa p dD))) λ aU Zt Zu y f3 n3=> ?_;refine Jd (i:=S) (C:=260) (as:=[(5,.ref c),(6,.ref R),(7,.int po),(8,.int U)]) (a:= .int U) (b:= .int 1) (v:= .int (U+1)) aB y.s rfl dD (by decide:4<=100) rfl vn aB rfl ?_;have h4:=y.Pk (some (R,((m o).foldl dq (upd q o (-2),M)).2)) po (U+1) (λ R' l' e=>by obtain⟨rfl,rfl⟩:=dX (aN e);exact y.r R _ rfl);exact(kk _ _ ⟨_,_,U+1,_,_,_,_,_,rfl,h4,(f2.trans f3).trans (.set G.oE.1 _),n3.trans I,e2,o2,λ x hx=>u x (.tail _ hx),E,aa (eH (aa (FO (m o) (upd q o (-2),M)) (mY (xo o) _)) _) p⟩).1;rintro B σ' ⟨q,M,U,v3,T,j,t,L,rfl,h',r,I,N,Xm,u,E,p⟩;have N:(q,M)=_:=N;have E:U=nf+nodes.length:=(Int.add_zero _).symm.trans E;subst E;rw[<-N]at h;exact h σ' h' r I
def vO(H:Hd J)(h:∀σ',Ext Y σ'->σ'.n=Y.n+2->bl (λ i=>Y.n<=i) σ' Y.n (Y.n+1) [] (λ D=>0) (λ D=>0) (λ D=>0) (λ D=>[]) none 0 0->Q (.ref Y.n) σ'):aJ J (d+2) (.glob 260) [] [] [] Q Y:=by obtain⟨P,A⟩:=H.hK;refine uy H.ok (.inst 260 []) (.inl rfl) (by refine A.symm▸?_;kernel_rfl) (fI:=eR) (by refine A.symm▸?_;kernel_rfl) (by refine A.symm▸?_;kernel_rfl) ?_;apply ix H _;have a:Y.n≠Y.n+1:=(ny _).symm;have le:∀{n:Nat},n<=4->n<=100:=λ h=>aa h dD;refine fZ (i:=Y.n) (C:=260) (as:=[]) (v:= .ref (Y.n+1)) (σ':=(Y.alloc (.inst 260 [])).alloc (.dict [] 0)) aB aB (i7 (Mem.aY _ _) a) rfl dD (cI _) ?_;refine fZ (i:=Y.n) (C:=260) (as:=[(5,.ref (Y.n+1))]) (v:= .none) aB aB (Mem.aR _ _ _) rfl dD (le (n:=1) dD) ?_;refine fZ (i:=Y.n) (C:=260) (as:=[(5,.ref (Y.n+1)),(6,.none)]) (v:= .int 0) aB aB (Mem.aR _ _ _) rfl dD (le (n:=2) dD) ?_;refine fZ (i:=Y.n) (C:=260) (as:=[(5,.ref (Y.n+1)),(6,.none),(7,.int 0)]) (v:= .int 0) aB aB (Mem.aR _ _ _) rfl dD (le (n:=3) dD) ?_;refine ot false (Ev.cmp (va:= .none) (vb:= .none) aB aB rfl) nf (λ D=> ?_);refine⟨rfl,h _ ⟨av Y.n 2,λ i hi=> ?_⟩ rfl ?_⟩;have n1:i≠Y.n:=az hi;exact aZ n1 (aZ n1 (aZ n1 (aZ n1 (i7 (Mem.cA _ _ n1) (az (fF hi))))));exact⟨Mem.aR _ _ _,⟨0,aZ a.symm (aZ a.symm (aZ a.symm (aZ a.symm (Mem.aY _ _))))⟩,.nil,λ o h=>(mn h),λ o h=>(mn h),λ o h=>(mn h),λ o h=>(mn h),λ R l e=>(nn e),⟨qU (k:=2) dD,bz _,λ o h=>(mn h)⟩,⟨ah _,bR _,λ o h=>(mn h)⟩,λ o D=>⟨rfl,rfl⟩,cI _⟩
def bl.YN{X:Nat->Prop}{S D:Nat}{keys:aj}{A B:Nat->Nat}{np:Nat->Int}{g:Nat->aj}{N:Option (Nat×aj)}{po nf:Int}(h:bl X Y S D keys A B np g N po nf):bl (λ i=>X i/\i<Y.n) Y S D keys A B np g N po nf:=⟨h.s,h.d,h.nd,h.n,h.b,h.iA,h.iB,λ R l e=>let⟨q,v,n,j⟩:=h.r R l e;⟨q,v,n,j,n⟩,h.lt,⟨⟨h.oE.1,h.lt.1⟩,⟨h.oE.2.1,h.lt.2.1⟩,λ o m=>⟨⟨(h.oE.2.2 o m).1,(h.lt.2.2 o m).1⟩,⟨(h.oE.2.2 o m).2,(h.lt.2.2 o m).2⟩⟩⟩,h.df,h.kl⟩
def Po{o a:ME}{m fa:Nat}{K:fA}{i C:Nat}{as:List (Nat×V)}{vs:aw}(w:Ev J d o B Y (.ref i))(hi:Y.f i= .inst C as)(I:pg.insts.contains C=true)(hm:pg.a9 C m=some fa)(z:Ev J d a B Y (.tuple vs))(u:vs.length<=100000)(h:fM J d (.glob fa) (.ref i::vs) [] [] K Y):wE J pg d (.nE o m [.star a]) K B Y:=w _ (by
 refine(?_:(match Y.f i with| .inst C _=>_|_=>False))
 refine hi.symm▸?_
 refine⟨I,cz hm ?_⟩
 refine(?_:wE J pg d a _ B Y)
 refine Cu z (cz (ar (af u)) ?_)
 refine(?_:fM J d (.glob fa) (.ref i::(vs++[])) [] [] K Y)
 rw[dw]
 exact h)
def Ord.sub{N:Nat->aj}:∀{q:aj},Ord N q->∀c∈q,∀x∈N c,x∈q
 |_::_,⟨M,G⟩,c,w,x,L=>(aT.mp w).elim (λ e=> .tail _ (M x (e▸L))) λ w=> .tail _ (G.sub c w x L)
def yI{N:Nat->aj}{U:aj}(a:∀c∈U,∃x∈U,x∈N c):∀{q:aj},Ord N q->∀c∈q,c∉U
 |v::q,⟨M,G⟩,c,w=>(aT.mp w).elim (λ e i=>by
   obtain⟨x,L,h⟩:=a c i
   exact yI a G x (M x (e▸h)) L) λ w=>yI a G c w
noncomputable def lB(O l:aj):Nat:=l.countP λ n=> !decide (n∈O)
def uS(o:Nat)(O:aj)(m:o∉O)(l:aj):lB O l=lB (o::O) l+l.count o:=by induction l with
 |nil=>rfl|cons n l z=>unfold lB at z⊢;rw[List.countP_cons,List.countP_cons,List.count_cons,z];by_cases e:n=o;rw[e,cJ m,af (show o∈o::O from .head _),ar (f9 o)];exact fC _ _ _;rw[au (by rw[iN e];exact nf:¬(n==o)=true),yB (p:=n∈o::O) (q:=n∈O) ⟨λ h=>(aT.mp h).resolve_left e,.tail _⟩];exact fD _ _ _
def ja{O l:aj}:lB O l=0↔∀n∈l,n∈O:=by unfold lB;rw[List.countP_eq_zero];exact⟨λ h n p=>sY λ hm=>h n p (by rw[cJ hm];rfl),λ h n p=>by rw[af (h n p)];exact nf⟩
def w0(l:aj):lB [] l=l.length:=by unfold lB;rw[List.countP_eq_length];exact λ n D=>by rw[cJ mn];rfl
structure Nq(l:aj)(np kH:Nat->Int)(rd qa:aj):Prop where
 e:∀s,kH s=np s-(l.count s:Int)
 n:qa.Nodup
 m:∀s,s∈qa↔s∈rd\/(s∈l/\np s=(l.count s:Int))
def CH(l:aj):∀(np:Nat->Int)(N:aj),(∀s∈l,(l.count s:Int)<=np s)->N.Nodup->(∀s∈l,s∉N)->Nq l np (l.foldl dq (np,N)).1 N (l.foldl dq (np,N)).2:=by induction l with
 |nil=>exact λ np N D p D=>⟨λ s=>(Int.sub_zero _).symm,p,λ s=>⟨.inl,λ e=>e.elim id λ e=>mn e.1⟩⟩|cons a l y=>
  intro np N A p d;have C:((a::l).count a:Int)=(l.count a:Int)+1:=by rw[List.count_cons_self];rfl
  have w:∀{s:Nat},s≠a->(a::l).count s=l.count s:=λ h=>List.count_cons_of_ne (Ne.symm h);have T:=A a (.head _);rw[C]at T;have k:∀s,upd np a (np a-1) s-(l.count s:Int)=np s-((a::l).count s:Int):=λ s=>by by_cases e:s=a;rw[e,bF,C,Int.sub_sub,Int.add_comm];rw[cH _ _ e,w e]
  have c:∀s∈l,(l.count s:Int)<=upd np a (np a-1) s:=λ s H=>by by_cases e:s=a;rw[e,bF];exact Int.le_sub_one_iff.mpr (Int.lt_of_lt_of_le (Int.lt_succ _) T);have:=A s (.tail _ H);rw[w e]at this;exact cH _ _ e▸this
  refine(?_:Nq (a::l) np (l.foldl dq (dq (np,N) a)).1 N (l.foldl dq (dq (np,N) a)).2);by_cases z:np a=1;have b:(np a-1==0)=true:=by rw[z];rfl
  have I:a∉l:=λ hm=>by have M:0<l.count a:=nL.mpr hm;rw[z]at T;exact absurd (gb.mp (show((l.count a+1:Nat):Int)<=(1:Nat) from T)) (fB.mpr (Nat.succ_lt_succ M))
  rw[show dq (np,N) a=(upd np a (np a-1),N++[a]) from aF (Prod.mk _) (ar b)];obtain⟨e,n,m⟩:=y (upd np a (np a-1)) (N++[a]) c (qM p λ x L e=>d a (.head _) (e▸L)) λ s H hm=>eM hm (d s (.tail _ H)) λ e=>I (e▸H);refine⟨λ s=>(e s).trans (k s),n,λ s=>(m s).trans ⟨λ h=> ?_,λ h=> ?_⟩⟩;rcases h with h|⟨M,G⟩;exact eM h .inl λ e=> .inr ⟨e▸.head _,by rw[e,C,lN.mpr I];exact z⟩;have e:s≠a:=λ e=>I (e▸M);rw[cH _ _ e]at G;exact .inr ⟨.tail _ M,G.trans (aF Int.ofNat (w e).symm)⟩;rcases h with h|⟨M,G⟩;exact .inl (fH _ h);by_cases e:s=a;exact .inl (e▸pH);rw[w e]at G;exact .inr ⟨(aT.mp M).resolve_left e,by exact cH _ _ e▸G⟩;have b:¬(np a-1==0)=true:=λ h=>z (by
   have:=bc h
   rw[<-Int.sub_add_cancel (np a) 1,this]
   rfl)
  rw[show dq (np,N) a=(upd np a (np a-1),N) from aF (Prod.mk _) (au b)];obtain⟨e,n,m⟩:=y (upd np a (np a-1)) N c p λ s H=>d s (.tail _ H);have key:∀s,upd np a (np a-1) s=(l.count s:Int)↔np s=((a::l).count s:Int):=λ s=>by rw[<-Int.sub_eq_zero,k s,Int.sub_eq_zero]
  refine⟨λ s=>(e s).trans (k s),n,λ s=>(m s).trans (or_congr Iff.rfl ⟨λ h=>⟨.tail _ h.1,(key s).mp h.2⟩,λ h=>⟨?_,(key s).mpr h.2⟩⟩)⟩;rcases aT.mp h.1 with e|e;refine sY λ hm=>z ?_;have G:=h.2;rw[e,C]at G;rw[e]at hm;rw[lN.mpr hm]at G;exact G;exact e
structure KI(N:Nat->aj)(keys O G:aj)(np:Nat->Int)(rd:aj):Prop where
 od:Ord N O
 nd:O.Nodup
 ok:∀c∈O,c∈keys
 g:∀c∈G,c∈keys/\c∉O/\np c= -1/\∀n∈N c,n∈O
 gn:G.Nodup
 np:∀c∈keys,c∉O->c∉G->np c=(lB O (N c):Int)
 rn:rd.Nodup
 rm:∀c,c∈rd↔c∈keys/\c∉O/\c∉G/\lB O (N c)=0
def KI.done{N g:Nat->aj}{keys O G:aj}{o:Nat}{np:Nat->Int}{z:aj}(h:KI N keys O (o::G) np z)(t:∀x s,(g x).count s=if s∈keys then(N s).count x else 0):KI N keys (o::O) G (jC g (np,z) o).1 (jC g (np,z) o).2:=by
 obtain⟨E,U,l,j⟩:=h.g o (.head _);have v:=gR.mp h.gn;have S:∀s∈g o,s∈keys/\o∈N s/\(g o).count s=(N s).count o/\s∉O/\s∉o::G:=λ s H=>by have y:=nL.mpr H;have I:=t o s;by_cases u:s∈keys;rw[ar u]at I;rw[I]at y;have hm:=nL.mp y;exact⟨u,hm,I,λ w=>U (h.od.sub s w o hm),λ L=>U ((h.g s L).2.2.2 o hm)⟩;rw[au u]at I;rw[I]at y;exact absurd y (iI 0)
 have T:∀s∈g o,upd np o (-2) s=(lB (o::O) (N s):Int)+((g o).count s:Int):=λ s H=>by obtain⟨a,b,c,d,e⟩:=S s H;rw[cH _ _ λ M:s=o=>e (M▸.head _),h.np s a d e,uS o O U,c,Int.natCast_add]
 obtain⟨e,n,m⟩:=CH (g o) (upd np o (-2)) z (λ s H=>by exact T s H▸Int.le_add_of_nonneg_left (dN _)) h.rn λ s H hm=>by obtain⟨a,b,c,d,e⟩:=S s H;exact U (ja.mp ((h.rm s).mp hm).2.2.2 o b)
 have same:∀c∈keys,c∉g o->lB (o::O) (N c)=lB O (N c):=λ c u H=>by have I:=t o c;rw[ar u,lN.mpr H]at I;rw[uS o O U,<-I,Nat.add_zero]
 refine(?_:KI N keys (o::O) G ((g o).foldl dq (upd np o (-2),z)).1 ((g o).foldl dq (upd np o (-2),z)).2);refine⟨⟨j,h.od⟩,gR.mpr ⟨U,h.nd⟩,sZ.mpr ⟨E,h.ok⟩,λ c L=> ?_,v.2,λ c u w L=> ?_,n,λ c=>(m c).trans ⟨λ r=> ?_,λ r=> ?_⟩⟩;obtain⟨a,b,C,d⟩:=h.g c (.tail _ L);have p:c≠o:=λ M=>v.1 (M▸L);refine⟨a,λ hm=>(aT.mp hm).elim p b,?_,λ n A=> .tail _ (d n A)⟩;rw[e c,cH _ _ p,lN.mpr λ H=>(S c H).2.2.2.2 (.tail _ L),C];rfl;have p:c≠o:=λ M=>w (M▸.head _);rw[e c];by_cases H:c∈g o;rw[T c H,Int.add_sub_cancel];rw[cH _ _ p,lN.mpr H,same c u H,h.np c u (λ hm=>w (.tail _ hm)) λ hm=>(aT.mp hm).elim p L];exact Int.sub_zero _;rcases r with r|⟨q,i⟩;obtain⟨a,b,C,d⟩:=(h.rm c).mp r;refine⟨a,λ hm=>(aT.mp hm).elim (λ M=>C (M▸.head _)) b,λ hm=>C (.tail _ hm),ja.mpr λ n A=> .tail _ (ja.mp d n A)⟩;obtain⟨a,b,C,d,f⟩:=S c q;refine⟨a,λ hm=>(aT.mp hm).elim (λ M=>f (M▸.head _)) d,λ hm=>f (.tail _ hm),?_⟩;exact Nat.add_eq_right.mp (Int.ofNat.inj ((i.symm.trans (T c q)).trans (Int.natCast_add _ _).symm)).symm;obtain⟨a,b,C,d⟩:=r;by_cases H:c∈g o;refine .inr ⟨H,?_⟩;rw[T c H,d];exact Int.zero_add _;rw[same c a H]at d;exact .inl ((h.rm c).mpr ⟨a,λ hm=>b (.tail _ hm),λ hm=>(aT.mp hm).elim (λ M=>b (M▸.head _)) C,d⟩)
def KI.round{N g:Nat->aj}{keys:aj}(w:∀x s,(g x).count s=if s∈keys then(N s).count x else 0):∀{G O:aj}{np:Nat->Int}{I:aj},KI N keys O G np I->KI N keys (G.reverse++O) [] (G.foldl (jC g) (np,I)).1 (G.foldl (jC g) (np,I)).2/\yF g (np,I) G
 |[],_,_,_,h=>⟨h,trivial⟩|o::G,O,np,I,h=>by obtain⟨a,b⟩:=(h.done w).round w;refine⟨?_,(h.g o (.head _)).2.2.1,b⟩;rw[nu,hZ];exact a
def uT{l:aj}{v:Int}:∀{np:Nat->Int}{c:Nat},(c∈l->pR np l v c=v)/\(c∉l->pR np l v c=np c):=by induction l with
 |nil=>exact λ{np c}=>⟨mn,λ D=>rfl⟩|cons a l z=>intro np c;refine(?_:(c∈a::l->pR (upd np a v) l v c=v)/\(c∉a::l->pR (upd np a v) l v c=np c));refine⟨λ h=> ?_,λ h=> ?_⟩;by_cases I:c∈l;exact z.1 I;rw[z.2 I,(aT.mp h).resolve_right I,bF];rw[z.2 λ hm=>h (.tail _ hm),cH _ _ λ e:c=a=>h (e▸.head _)]
def KI.out{N:Nat->aj}{keys O:aj}{np:Nat->Int}{G:aj}(h:KI N keys O [] np G):KI N keys O G (pR np G (-1)) []:=⟨h.od,h.nd,h.ok,λ c w=>let x:=(h.rm c).mp w;⟨x.1,x.2.1,uT.1 w,ja.mp x.2.2.2⟩,h.rn,λ c u f I=>(uT.2 I).trans (h.np c u f mn),.nil,λ c=>⟨mn,λ x=>absurd ((h.rm c).mpr ⟨x.1,x.2.1,mn,x.2.2.2⟩) x.2.2.1⟩⟩
def KI.init{N:Nat->aj}{keys:aj}{np:Nat->Int}(u:keys.Nodup)(p:∀c∈keys,np c=((N c).length:Int)):KI N keys [] [] np (keys.filter λ o=>np o==0):=⟨trivial,.nil,mN,mN,.nil,λ c w D D=>(p c w).trans (aF Int.ofNat (w0 _).symm),u.filter _,λ c=>by
  rw[kK,w0]
  exact⟨λ x=>⟨x.1,mn,mn,Int.ofNat.inj ((p c x.1).symm.trans (bc x.2))⟩,λ x=>⟨x.1,cZ.mpr ((p c x.1).trans (aF Int.ofNat x.2.2.2))⟩⟩⟩
noncomputable abbrev mC(a b c d:Nat):Nat:=((a*64+b)*64+c)*64+d
noncomputable abbrev qQ(n:Nat):aj:=[n/65536,n/256%256,n%256]
noncomputable def pT:aj->aj
 |a::b::c::d::r=>qQ (mC a b c d)++pT r|_=>[]
def yJ{l:aj}(h:4<=l.length):∃a b c d r,l=a::b::c::d::r:=by match l,h with
 |a::b::c::d::r,_=>exact⟨a,b,c,d,r,rfl⟩|[],h=>exact absurd h dD
 |[_],h=>exact absurd h (by decide:¬4<=1)|[_,_],h=>exact absurd h (by decide:¬4<=2)
 |[_,_,_],h=>exact absurd h (by decide:¬4<=3)
def yK{a b c d:Nat}(C:a<64)(U:b<64)(w:c<64)(hd:d<64):mC a b c d<16777216:=by have k:∀{x y n:Nat},x<n->y<64->x*64+y<n*64:=λ{x y n} M N=>ai (lJ N _) (by rw[<-Nat.succ_mul];exact Nat.mul_le_mul_right 64 M);exact k (k (k C U) w) hd
def yL{n:Nat}(h:n<16777216):∀k∈qQ n,k<256:=λ k u=>by rcases aT.mp u with rfl|u;exact Nat.div_lt_of_lt_mul h;rcases aT.mp u with rfl|u;exact Nat.mod_lt _ dD;exact bX.mp u▸Nat.mod_lt _ dD
def Mc(l:aj):∀n,n<=l.foldl (λ n f=>n*64+f) n:=by induction l with
 |nil=>exact λ n=>ah _|cons a l z=>exact λ n=>aa (aa (Nat.le_mul_of_pos_right n dD) (av _ _)) (z _)
def Pp(k:Nat)(u:k<=6):kQ [.int 0,.int ((4*k:Nat):Int),.int 4]=some ((List.range k).map λ j=>V.int ((4*j:Nat):Int)):=by match k,u with
 |0,_=>rfl|1,_=>rfl
 |2,_=>rfl|3,_=>rfl
 |4,_=>rfl|5,_=>rfl
 |6,_=>rfl|k+7,h=>exact absurd h (fB.mpr (hV _ _))
def DU{a b:Nat}(C:a<2^64)(U:b<2^64):lV Y .Mult (.int (a:Int)) (.int (b:Int))=some (.int ((a*b:Nat):Int)):=by refine(?_:(if small (a:Int)&&small (b:Int)then some ((a:Int)*b)else none).map V.int=_);rw[kB C,kB U,Int.natCast_mul];rfl
def mV(a b:Nat)(U:b≠0):lV Y .Mod (.int (a:Int)) (.int (b:Int))=some (.int ((a%b:Nat):Int)):=by refine(?_:(if decide ((b:Int)≠0)then some ((a:Int).fmod b)else none).map V.int=_);rw[af (show(b:Int)≠0 from λ e=>U (Int.ofNat.inj e)),Int.fmod_eq_emod_of_nonneg _ (dN b),Int.natCast_emod];rfl
def k9{o:ME}{lo hi:Option ME}{v:V}{l:aj}{a b:Nat}(n:bD Y v=some (nums l))(m:Ev J d o B Y v)(I:∀K:fA,(∀w,iS w=some (some (a:Int))->K w Y)->wO J pg d lo K B Y)(f:∀K:fA,(∀w,iS w=some (some ((a:Int)+(b:Int)))->K w Y)->wO J pg d hi K B Y)(h:a<=l.length)(H:l.length<=1000000)(Q:v.Bh=none):Ev J d (.slice o lo hi) B Y (.list (nums ((l.drop a).take b))):=by
 apply mA m I f;have key:(match bD Y v with|some vs=>if decide (vs.length<=1000000)then some (V.list (cg vs (some (a:Int)) (some ((a:Int)+(b:Int)))))else none|none=>none)=some (.list (nums ((l.drop a).take b))):=by refine n.symm▸?_;refine(ar (af (by rw[bh];exact H))).trans ?_;exact(yt (by rw[bh];exact h)).symm▸List.map_drop▸List.map_take▸rfl
 induction v using vC with
 |str=>exact nn Q.symm|_=>exact key
inductive Xn(Y:Mem)(l:aj)(k:Nat)(rest:aj)(B:aw)(σ':Mem):Prop where
 |mk (j m:Nat) (out:aj) (v2 v3 v4:V) (hr:B=[.list (nums l),.ref Y.n,v2,v3,v4]) (ex:Ext Y σ') (ho:σ'.f Y.n= .list (nums out)) (hn:Y.n<σ'.n) (he:rest=List.range' j m) (hj:j+m=k) (hd:out++pT (l.drop (4*j))=pT l) (hlen:out.length=3*j) (hb:∀x∈out,x<256):Xn Y l k rest B σ'
def nJ(H:Hd J){l:aj}{k:Nat}(I:l.length=4*k)(u:k<=6)(y:∀f∈l,f<64)(h:∀σ',Ext Y σ'->Q (.bytes (pT l)) σ'):aJ J (d+1) (.glob gI) [.list (nums l)] [] [] Q Y:=by
 apply qH H _;have E:l.length<=24:=I▸iH 4 u;refine r8 (v:= .ref Y.n) (σ':=Y.alloc (.list [])) aB ?_;refine pD (λ j:Nat=>V.int ((4*j:Nat):Int)) (vi:= .it false ((List.range k).map λ j=>V.int ((4*j:Nat):Int))) (l:=List.range k) (g:=λ D=>True) (λ K q=> ?_) rfl (Xn Y l k) ⟨0,k,[],_,_,_,rfl,.alloc _ _,Mem.aY _ _,bz _,List.range_eq_range',dy k,rfl,rfl,mN⟩ (λ D D D D=>trivial) ?_ ?_;have ha:cF J d [.lit (.int 0),.call (.bT 24) [.var 0] [] [],.lit (.int 4)] [.list (nums l),.ref Y.n,.aC,.aC,.aC] (Y.alloc (.list [])) [.int 0,.int ((4*k:Nat):Int),.int 4]:=cF.cons rfl aB (cF.cons rfl (AB (v:= .list (nums l)) (n:=4*k) aB rfl (aF some ((bh l).trans I)) (by exact I▸aa E dD)) (cF.one rfl λ K k=>k));refine ha _ ?_;rw[Pp k u];exact q
 ·rintro a rest B U K ⟨j,m,out,v2,v3,w,rfl,ex,A,N,he,c,hd,hlen,M⟩ kk;induction m using nC with
  |zero=>exact PR he|succ m=>
  obtain⟨rfl,rfl⟩:=jF he;have G:a+1<=k:=aa (mY (gK (cI m)) a) (bO c);have C:4*a+4<=l.length:=I▸iH 4 G;obtain⟨p,q,r,t,more,hm⟩:=yJ (l:=l.drop (4*a)) (by exact fk▸Nat.le_sub_of_add_le' C);have s:∀x∈[p,q,r,t],x<64:=λ x L=>y x (List.mem_of_mem_drop (i:=4*a) (hm▸fH more L));have z:mC p q r t<16777216:=yK (s _ (.head _)) (s _ (.tail _ (.head _))) (s _ (.tail _ (.tail _ (.head _)))) (s _ (.tail _ (.tail _ (.tail _ (.head _)))));have YR:l.drop (4*(a+1))=more:=by rw[Nat.mul_succ,<-jG,hm];rfl
  refine bW (v:= .int 0) aB ?_;refine pD (λ f:Nat=>V.int (f:Int)) (vi:= .list (nums [p,q,r,t])) (l:=[p,q,r,t]) (g:=λ D=>True) ?_ rfl (λ rest B T=>∃(acc:Nat)(w:V),B=[.list (nums l),.ref Y.n,.int ((4*a:Nat):Int),.int (acc:Int),w]/\T=U/\rest.foldl (λ n f=>n*64+f) acc=mC p q r t) ⟨0,_,rfl,rfl,by refine(?_:(((0*64+p)*64+q)*64+r)*64+t=_);rw[Nat.zero_mul,dy]⟩ (λ D D D D=>trivial) ?_ ?_;have:=k9 (J:=J) (d:=d) (o:= .var 0) (lo:=some (.var 2)) (hi:=some (.bin .Add (.var 2) (.lit (.int 4)))) (B:=[.list (nums l),.ref Y.n,.int ((4*a:Nat):Int),.int 0,w]) (Y:=U) (v:= .list (nums l)) (l:=l) (a:=4*a) (b:=4) rfl aB (λ K k=>c9 aB k) (λ K k=>c9 (Ev.bin (va:= .int ((4*a:Nat):Int)) (vb:= .int 4) aB aB rfl) k) (aa (av _ 4) C) (aa E dD) rfl;rw[hm]at this;exact this;rintro f rest B T K' ⟨acc,w,rfl,rfl,hf⟩ k';have Ai:acc*64+f<16777216:=bt (aa (Mc rest _) (bO hf)) z;have Sf:acc<2^64:=bt (aa (Nat.le_mul_of_pos_right acc dD) (av _ f)) (ai Ai dD);refine bW (v:= .int ((acc*64+f:Nat):Int)) (Ev.bin (va:= .int ((acc*64:Nat):Int)) (vb:= .int (f:Int)) (Ev.bin (va:= .int (acc:Int)) (vb:= .int ((64:Nat):Int)) aB aB (DU Sf dD)) aB (sP _ _)) ?_;exact(k' _ _ ⟨acc*64+f,_,rfl,rfl,hf⟩).1;rintro B T ⟨acc,w,rfl,rfl,hf⟩;have hf:acc=mC p q r t:=hf;subst hf;have YS:cF J d [.bin .FloorDiv (.var 3) (.lit (.int 65536)),.bin .Mod (.bin .FloorDiv (.var 3) (.lit (.int 256))) (.lit (.int 256)),.bin .Mod (.var 3) (.lit (.int 256))] [.list (nums l),.ref Y.n,.int ((4*a:Nat):Int),.int (mC p q r t:Nat),w] T (nums (qQ (mC p q r t))):=
   cF.cons rfl (Ev.bin (vb:= .int ((65536:Nat):Int)) aB aB (pM _ _ dD dD)) (cF.cons rfl (Ev.bin (vb:= .int ((256:Nat):Int)) (Ev.bin (vb:= .int ((256:Nat):Int)) aB aB (pM _ _ dD dD)) aB (mV _ _ dD)) (cF.one rfl (Ev.bin (vb:= .int ((256:Nat):Int)) aB aB (mV _ _ dD))))
  apply et;refine(?_:wEs J pg d _ (λ vs Y=>opt (vm Y .Add _ (.list vs)) _) _ _);refine YS _ (cz (a:=(.ref Y.n,T.set Y.n (.list (nums (out++qQ (mC p q r t)))))) ?_ ?_);refine(?_:NP T Y.n (.list (nums (qQ (mC p q r t)))) (T.f Y.n)=_);rw[A];refine(ar (jI (af (by rw[bh,hlen];exact aa (iH 3 (aa (bo G) u)) dD)) rfl)).trans ?_;exact(show nums out++nums (qQ (mC p q r t))=nums (out++qQ (mC p q r t)) from eG.symm).symm▸rfl;exact(kk _ _ ⟨a+1,m,out++qQ (mC p q r t),_,_,_,rfl,ex.set (ah _) _,Mem.aR _ _ _,N,rfl,(fD a 1 m).trans c,by rw[hZ,YR,<-hd,hm];rfl,by refine bH.symm▸hlen.symm▸?_;rfl,λ x L=>(bK.mp L).elim (M x) (yL z x)⟩).1
 rintro B U ⟨j,m,out,v2,v3,w,rfl,ex,A,N,he,c,hd,hlen,M⟩;have hm:m=0:=by induction m using nC with
  |zero=>rfl|succ m=>exact PQ he
 subst hm;have c:j=k:=c;have e:out=pT l:=by rw[<-hd,c,<-I,List.drop_length];exact(dw _).symm
 subst e;exact kZ (Cw A (by exact hlen▸aa (iH 3 (aa (bO c) u)) dD) M) (h _ ex)
noncomputable abbrev putL(s:aj)(x:aj×aj):aj×aj:=(s++x.1,x.2)
def mD{p:Nat->Bool}(l:aj):∀(e:Bool)(acc:aj),dW p l e acc=putL acc (dW p l e []):=by induction l with
 |nil=>exact λ e acc=>aF (·,[]) (dw acc).symm|cons c r z=>
  have one:∀acc,dW p r false (acc++[c])=putL acc (dW p r false ([]++[c])):=λ acc=>by refine(z false (acc++[c])).symm▸(z false ([]++[c])).symm▸?_;exact aF (·,_) (hZ ..)
  intro e acc;induction e with
  |true=>exact one acc|false=>by_cases h:p c=true;refine(dQ h).symm▸(dQ h).symm▸?_;exact aF (·,r) (dw acc).symm;have h:=kM.mpr h;by_cases N:c=92;rw[N]at h⊢;refine(fY h).symm▸(fY h).symm▸?_;exact z true acc;refine(fX h N).symm▸(fX h N).symm▸?_;exact one acc
noncomputable abbrev oA(p:Nat->Bool)(l:aj):aj×aj:=dW p l false []
def uU{p:Nat->Bool}{c:Nat}{r:aj}(h:p c=false)(N:c≠92):oA p (c::r)=putL [c] (oA p r):=(fX h N).trans (mD r false [c])
def yM{p:Nat->Bool}{r:aj}(h:p 92=false):oA p (92::r)=putL (r.take 1) (oA p (r.drop 1)):=(fY h).trans (qN.trans (mD _ false _))
def pU{c:Nat}{r:aj}(h:mT c=false)(N:c≠34):cG (c::r)=oA mT (c::r):=(au (by refine h.symm▸?_;exact nf)).trans (au N)
def pV{c:Nat}{r:aj}(h:mT c=true):cG (c::r)=cG r:=ar h
noncomputable def de(x:aj×aj):V:= .tuple [.int ((24-x.2.length:Nat):Int),.str x.1]
noncomputable def cL(T:aj)(j:Nat):Nat:=24-(cG (T.drop j)).2.length
noncomputable def la(T:aj)(j:Nat):V:= .tuple [.int (cL T j:Nat),.str (cG (T.drop j)).1,.int ((1+((T.drop j).take (cL T j-j)).count 10:Nat):Int)]
def one_le{x y n:Nat}(h:x+y<=n):1+x+y<=n+1:=by rw[fC,eO 1];exact gK h
def uV{p:Nat->Bool}(l:aj):∀(e:Bool),(dW p l e []).1.length+(dW p l e []).2.length<=l.length:=by induction l with
 |nil=>exact λ e=>ah _|cons c r z=>
  have one:(dW p r false ([]++[c])).1.length+(dW p r false ([]++[c])).2.length<=r.length+1:=by refine(mD r false ([]++[c])).symm▸?_;refine bH.symm▸?_;exact one_le (z false)
  intro e;induction e with
  |true=>exact one|false=>by_cases h:p c=true;exact dQ h▸aa (bO (dy _)) (bR _);have h:=kM.mpr h;by_cases N:c=92;rw[N]at h⊢;exact fY h▸jk (z true);exact fX h N▸one
def uW(l:aj):(cG l).1.length+(cG l).2.length<=l.length:=by induction l with
 |nil=>exact ah _|cons c r z=>by_cases h:mT c=true;refine(pV h).symm▸?_;exact jk z;have h:=kM.mpr h;by_cases N:c=34;exact N▸jk (uV r false);exact pU h N▸uV (c::r) false
def CI(H:Hd J){s w:aj}{e:Int}(C:s.length+w.length<=1000)(h:Q (.tuple [.int e,.str (s++w)]) Y):aJ J (d+1) (.glob oo) [.str s,.tuple [.int e,.str w]] [] [] Q Y:=by refine vI H _ _ (DL ?_);refine lE (vs:=[.int e,.str (s++w)]) (cF.cons rfl (Ev.sub (va:= .tuple [.int e,.str w]) (vb:= .int 0) aB aB rfl) (cF.one rfl (Ev.bin (va:= .str s) (vb:= .str w) aB (Ev.sub (va:= .tuple [.int e,.str w]) (vb:= .int 1) aB aB rfl) ?_))) h;exact ar (af (aa C dD))
noncomputable def R0(T:aj)(i:Nat):V:=de (cG (T.drop i))
noncomputable def R1(T:aj)(i:Nat):V:=de (oA mT (T.drop i))
noncomputable def R2(T:aj)(i:Nat):V:=de (oA isQ (T.drop i))
structure Me(R:Nat->V)(j:Nat)(F:aw):Prop where
 n:F.length=26
 e:∀i,j<=i->i<26->F[i]? =some (R i)
def Me.put{R:Nat->V}{j:Nat}{F:aw}(h:Me R (j+1) F)(t:j<26){v:V}(n:v=R j):Me R j (F.set j v):=by subst n;refine⟨(List.length_set ..).trans h.n,λ i M N=> ?_⟩;by_cases e:j=i;subst e;exact List.getElem?_set_self (h.n.symm▸t);refine(List.getElem?_set_ne e).symm▸?_;exact h.e i (oG M e) N
def Me.new{R:Nat->V}{v:V}(M:R 24=v)(N:R 25=v):Me R 24 (List.replicate 26 v):=by refine⟨s6,λ i j C=> ?_⟩;refine(List.getElem?_replicate).symm▸(ar C).symm▸?_;rcases lF j with h|h;obtain rfl:i=25:=w4 (iG C) h;exact N.symm▸rfl;exact h▸M.symm▸rfl
def Pq{b j i:Nat}{F:aw}{R:Nat->V}(U:Y.f b= .list F)(t:Me R j F)(M:j<=i)(N:i<26):iQ Y (.ref b) (.int (i:Int))=some (R i):=by refine(?_:(match Y.f b with| .list vs=>if decide (vs.length<=1000000)then idx vs (i:Int)else none| .dict bJ _=>bJ.lookup (i:Int)|_=>none)=_);rw[U];refine(ar (af (by refine t.n.symm▸?_;decide))).trans ((pK F i).trans (t.e i M N))
def Js{b j:Nat}{F:aw}{v:V}(U:Y.f b= .list F)(hF:F.length=26)(t:j<26):qq Y (.ref b) (.int (j:Int)) v=some (λ D=>Y.set b (.list (F.set j v))):=by refine(?_:sC Y b (j:Int) v (Y.f b)=_);rw[U];refine(ar (jI (jI (af (dN j)) (af (oH.mpr (hF.symm▸t)))) (af (by refine hF.symm▸?_;decide)))).trans rfl
def Ev.put(H:Hd J){es c:ME}{s w:aj}{e:Int}(M:es.isStar=false)(N:c.isStar=false)(C:Ev J (d+1) es B Y (.str s))(g:Ev J (d+1) c B Y (.tuple [.int e,.str w]))(I:s.length+w.length<=1000):Ev J (d+1) (.call (.bT 34) [es,c] [] []) B Y (.tuple [.int e,.str (s++w)]):=λ K k=>fh (a:=oo) aB (lE (cF.cons M C (cF.one N g)) (CI H I k))
noncomputable abbrev vP(T:aj)(a:Nat)(t L p q v10:V):aw:=[.str T,.int 24,.aC,.ref a,.ref (a+1),.ref (a+2),t,L,p,q,v10,.aC,.aC,.aC]
structure nq(T:aj)(Y σ':Mem)(j:Nat):Prop where
 ex:Ext Y σ'
 n:Y.n+2<σ'.n
 f:∃F,σ'.f Y.n= .list F/\Me (R0 T) j F
 p:∃F,σ'.f (Y.n+1)= .list F/\Me (R1 T) j F
 q:∃F,σ'.f (Y.n+2)= .list F/\Me (R2 T) j F
def Pt{T:aj}{Y σ':Mem}{j:Nat}{r:List MS}{Q:Fl->aw->Mem->Prop}(h:nq T Y σ' (j+1))(t:j<26){o f H:aj×aj}(l:o=cG (T.drop j))(x:f=oA mT (T.drop j))(i:H=oA isQ (T.drop j)){L p q:V}(k:∀A,nq T Y A j->wSs J pg d r Q (vP T Y.n (.int (j:Int)) L p q (.list [de o,de f,de H])) A):wSs J pg d (.kO [.sub (.var 3) (.var 6),.sub (.var 4) (.var 6),.sub (.var 5) (.var 6)] (.var 10)::r) Q (vP T Y.n (.int (j:Int)) L p q (.list [de o,de f,de H])) σ':=by obtain⟨ex,b,⟨F,f1,f2⟩,⟨G,g1,g2⟩,⟨P,y,C⟩⟩:=h;have n1:Y.n≠Y.n+1:=(ny _).symm;have n2:Y.n≠Y.n+2:=off (a:=0) dD;have U:Y.n+1≠Y.n+2:=off dD;refine et ⟨rfl,?_⟩;refine cz (Js (v:=de o) f1 f2.n t) λ D=> ?_;refine cz (Js (v:=de f) (aZ n1.symm g1) g2.n t) λ D=> ?_;refine cz (Js (v:=de H) (aZ U.symm (aZ n2.symm y)) C.n t) λ D=> ?_;exact k _ ⟨((ex.set (ah _) _).set (bR _) _).set (av _ 2) _,b,⟨_,aZ n2 (aZ n1 (Mem.aR _ _ _)),f2.put t (aF de l)⟩,⟨_,aZ U (Mem.aR _ _ _),g2.put t (aF de x)⟩,⟨_,Mem.aR _ _ _,C.put t (aF de i)⟩⟩
def nq.r0{T:aj}{Y σ':Mem}{j i:Nat}(h:nq T Y σ' j)(M:j<=i)(N:i<26):iQ σ' (.ref Y.n) (.int (i:Int))=some (R0 T i):=by obtain⟨F,f1,f2⟩:=h.f;exact Pq f1 f2 M N
def nq.r1{T:aj}{Y σ':Mem}{j i:Nat}(h:nq T Y σ' j)(M:j<=i)(N:i<26):iQ σ' (.ref (Y.n+1)) (.int (i:Int))=some (R1 T i):=by obtain⟨F,f1,f2⟩:=h.p;exact Pq f1 f2 M N
def nq.r2{T:aj}{Y σ':Mem}{j i:Nat}(h:nq T Y σ' j)(M:j<=i)(N:i<26):iQ σ' (.ref (Y.n+2)) (.int (i:Int))=some (R2 T i):=by obtain⟨F,f1,f2⟩:=h.q;exact Pq f1 f2 M N
noncomputable def VH:List MS:=[.dC (.cmp .Eq (.var 7) (.lit (.str [92]))) [.assign [.var 9] (.call (.bT 34) [.var 8,.sub (.var 4) (.bin .Add (.var 6) (.lit (.int 2)))] [] []),.assign [.var 10] (.list false [.var 9,.var 9,.call (.bT 34) [.var 8,.sub (.var 5) (.bin .Add (.var 6) (.lit (.int 2)))] [] []])] [.dC (.cmp .Eq (.var 7) (.lit (.str [34]))) [.assign [.var 10] (.list false [.sub (.var 5) (.bin .Add (.var 6) (.lit (.int 1))),.call (.bT 34) [.var 7,.sub (.var 4) (.bin .Add (.var 6) (.lit (.int 1)))] [] [],.tuple [.bin .Add (.var 6) (.lit (.int 1)),.lit (.str [])]])] [.dC (.cmp .In (.var 7) (.lit (.str [32,9,13,10]))) [.assign [.var 10] (.list false [.sub (.var 3) (.bin .Add (.var 6) (.lit (.int 1))),.tuple [.bin .Add (.var 6) (.lit (.int 1)),.lit (.str [])],.call (.bT 34) [.var 7,.sub (.var 5) (.bin .Add (.var 6) (.lit (.int 1)))] [] []])] [.assign [.var 9] (.call (.bT 34) [.var 7,.sub (.var 4) (.bin .Add (.var 6) (.lit (.int 1)))] [] []),.assign [.var 10] (.list false [.var 9,.var 9,.call (.bT 34) [.var 7,.sub (.var 5) (.bin .Add (.var 6) (.lit (.int 1)))] [] []])]]]]
noncomputable abbrev Jt:MS:= .kO [.sub (.var 3) (.var 6),.sub (.var 4) (.var 6),.sub (.var 5) (.var 6)] (.var 10)
def Ev.list{es:List ME}{vs:aw}(h:cF J d es B Y vs):Ev J d (.list false es) B Y (.list vs):=λ K k=>by exact h _ k
def Ev.tuple{es:List ME}{vs:aw}(h:cF J d es B Y vs):Ev J d (.tuple es) B Y (.tuple vs):=λ K k=>by exact h _ k
def Sg(H:Hd J){T:aj}{Y σ':Mem}{j c:Nat}{E:aj}{r:List MS}{Q:Fl->aw->Mem->Prop}(G:T.length=24)(h:nq T Y σ' (j+1))(o:j<24)(I:T.drop j=c::E){v9 v10:V}(k:∀x C A,nq T Y x j->wSs J pg (d+1) r Q (vP T Y.n (.int (j:Int)) (.str [c]) (.str (E.take 1)) C A) x):wSs J pg (d+1) (VH++Jt::r) Q (vP T Y.n (.int (j:Int)) (.str [c]) (.str (E.take 1)) v9 v10) σ':=by
 have q:T.drop (j+1)=E:=drop_cons I;have hd2:T.drop (j+2)=E.drop 1:=by exact q▸jG.symm▸rfl
 have YT:24-E.length=j+1:=by have:=aF List.length q;rw[fk,G]at this;exact this▸(Nat.sub_sub_self (Nat.succ_le_of_lt o)).symm▸rfl
 have g:∀{p:Nat->Bool}{i:Nat}{s:aj},s.length<=1->s.length+(oA p (T.drop i)).1.length<=1000:=λ{p i s} hs=>aa (dS hs (aa (aa (av _ _) (uV (T.drop i) false)) (by rw[fk,G];exact iK _ _))) dD;have b:j+1<26:=ai (Nat.succ_lt_succ o) dD;have u:j+2<26:=Bc o 2;have l:∀{C A:V}{Y:Mem}{a n:Nat},Ev J (d+1) (.bin .Add (.var 6) (.lit (.int (n:Int)))) (vP T a (.int (j:Int)) (.str [c]) (.str (E.take 1)) C A) Y (.int ((j+n:Nat):Int)):=λ{C A Y a n}=>Ev.bin (va:= .int (j:Int)) (vb:= .int (n:Int)) aB aB rfl;have f1:∀{C A:V},Ev J (d+1) (.sub (.var 3) (.bin .Add (.var 6) (.lit (.int 1)))) (vP T Y.n (.int (j:Int)) (.str [c]) (.str (E.take 1)) C A) σ' (de (cG (T.drop (j+1)))):=λ{C A}=>Ev.sub (va:= .ref Y.n) aB (l (n:=1)) (h.r0 (ah _) b);have y:∀{C A:V},Ev J (d+1) (.sub (.var 4) (.bin .Add (.var 6) (.lit (.int 1)))) (vP T Y.n (.int (j:Int)) (.str [c]) (.str (E.take 1)) C A) σ' (de (oA mT (T.drop (j+1)))):=λ{C A}=>Ev.sub (va:= .ref (Y.n+1)) aB (l (n:=1)) (h.r1 (ah _) b);have M:∀{C A:V},Ev J (d+1) (.sub (.var 5) (.bin .Add (.var 6) (.lit (.int 1)))) (vP T Y.n (.int (j:Int)) (.str [c]) (.str (E.take 1)) C A) σ' (de (oA isQ (T.drop (j+1)))):=λ{C A}=>Ev.sub (va:= .ref (Y.n+2)) aB (l (n:=1)) (h.r2 (ah _) b);have p2:∀{C A:V},Ev J (d+1) (.sub (.var 4) (.bin .Add (.var 6) (.lit (.int 2)))) (vP T Y.n (.int (j:Int)) (.str [c]) (.str (E.take 1)) C A) σ' (de (oA mT (T.drop (j+2)))):=λ{C A}=>Ev.sub (va:= .ref (Y.n+1)) aB (l (n:=2)) (h.r1 (bR _) u);have q2:∀{C A:V},Ev J (d+1) (.sub (.var 5) (.bin .Add (.var 6) (.lit (.int 2)))) (vP T Y.n (.int (j:Int)) (.str [c]) (.str (E.take 1)) C A) σ' (de (oA isQ (T.drop (j+2)))):=λ{C A}=>Ev.sub (va:= .ref (Y.n+2)) aB (l (n:=2)) (h.r2 (bR _) u);have t:∀{C A:V},Ev J (d+1) (.var 7) (vP T Y.n (.int (j:Int)) (.str [c]) (.str (E.take 1)) C A) σ' (.str [c]):=λ{C A} K k=>k;have L:∀{C A:V},Ev J (d+1) (.var 8) (vP T Y.n (.int (j:Int)) (.str [c]) (.str (E.take 1)) C A) σ' (.str (E.take 1)):=λ{C A} K k=>k;have stop:∀{C A:V},Ev J (d+1) (.tuple [.bin .Add (.var 6) (.lit (.int 1)),.lit (.str [])]) (vP T Y.n (.int (j:Int)) (.str [c]) (.str (E.take 1)) C A) σ' (de ([],E)):=λ{C A}=>by have:Ev J (d+1) (.tuple [.bin .Add (.var 6) (.lit (.int 1)),.lit (.str [])]) (vP T Y.n (.int (j:Int)) (.str [c]) (.str (E.take 1)) C A) σ' (.tuple [.int ((j+1:Nat):Int),.str []]):=Ev.tuple (cF.cons rfl (l (n:=1)) (cF.one rfl λ K k=>k));rw[<-YT]at this;exact this
 have fin:∀{N f z:aj×aj}{C:V},N=cG (T.drop j)->f=oA mT (T.drop j)->z=oA isQ (T.drop j)->wSs J pg (d+1) (Jt::r) Q (vP T Y.n (.int (j:Int)) (.str [c]) (.str (E.take 1)) C (.list [de N,de f,de z])) σ':=λ{N f z C} e0 e1 e2=>Pt h (ai o dD) e0 e1 e2 λ x h2=>k x _ _ h2;rw[I]at fin;refine ot (decide (c=92)) (.cmp (va:= .str [c]) (vb:= .str [92]) t aB (pJ σ' c 92)) (λ e=> ?_) (λ e=> ?_);have e:c=92:=ae e;subst e;apply bW (v:=de (putL (E.take 1) (oA mT (T.drop (j+2))))) (Ev.put H rfl rfl L p2 (g (mS E)));refine bW (v:= .list [de (putL (E.take 1) (oA mT (T.drop (j+2)))),de (putL (E.take 1) (oA mT (T.drop (j+2)))),de (putL (E.take 1) (oA isQ (T.drop (j+2))))]) (Ev.list (cF.cons rfl aB (cF.cons rfl aB (cF.one rfl (Ev.put H rfl rfl L q2 (g (mS E))))))) ?_;refine hd2.symm▸?_;exact ei (fin (yM rfl).symm (yM rfl).symm (yM rfl).symm);have w:c≠92:=of_decide_eq_false e;refine ot (decide (c=34)) (.cmp (va:= .str [c]) (vb:= .str [34]) t aB (pJ σ' c 34)) (λ e=> ?_) (λ e=> ?_);have e:c=34:=ae e;subst e;apply bW (v:= .list [de (oA isQ (T.drop (j+1))),de (putL [34] (oA mT (T.drop (j+1)))),de ([],E)]) (Ev.list (cF.cons rfl M (cF.cons rfl (Ev.put H rfl rfl t y (g (ah 1))) (cF.one rfl stop))));refine q.symm▸?_;exact wR (fin rfl (uU rfl dD).symm rfl);have Xq:c≠34:=of_decide_eq_false e;have hq:isQ c=false:=cJ Xq;refine ot (decide (c∈[32,9,13,10])) (.cmp (va:= .str [c]) (vb:= .str [32,9,13,10]) t aB rfl) (λ e=> ?_) (λ e=> ?_);have U:mT c=true:=af (by
  rcases aT.mp (ae e)with rfl|m
  ·decide
  rcases aT.mp m with rfl|m
  ·decide
  rcases aT.mp m with rfl|m
  ·decide
  ·exact bX.mp m▸.head _)
 apply bW (v:= .list [de (cG (T.drop (j+1))),de ([],E),de (putL [c] (oA isQ (T.drop (j+1))))]) (Ev.list (cF.cons rfl f1 (cF.cons rfl stop (cF.one rfl (Ev.put H rfl rfl t M (g (ah 1)))))));refine q.symm▸?_;exact ei (wR (fin (pV U).symm (dQ U).symm (uU hq w).symm));have U:mT c=false:=cJ λ m=>of_decide_eq_false e (by
  rcases aT.mp m with rfl|m
  ·decide
  rcases aT.mp m with rfl|m
  ·decide
  rcases aT.mp m with rfl|m
  ·decide
  ·exact bX.mp m▸.head _)
 apply bW (v:=de (putL [c] (oA mT (T.drop (j+1))))) (Ev.put H rfl rfl t y (g (ah 1)));refine bW (v:= .list [de (putL [c] (oA mT (T.drop (j+1)))),de (putL [c] (oA mT (T.drop (j+1)))),de (putL [c] (oA isQ (T.drop (j+1))))]) (Ev.list (cF.cons rfl aB (cF.cons rfl aB (cF.one rfl (Ev.put H rfl rfl t M (g (ah 1))))))) ?_;refine q.symm▸?_;exact ei (wR (fin ((pU U Xq).trans (uU U w)).symm (uU U w).symm (uU hq w).symm))
def Pu:kQ [.int 23,.int (-1),.int (-1)]=some (nums (List.range 24).reverse):=by kernel_rfl
def Mf{T:aj}{j:Nat}(h:j<T.length):∃c E,T.drop j=c::E/\T[j]? =some c:=⟨T[j],T.drop (j+1),qV h,gN h⟩
def uX(m:Nat):(List.range (m+1)).reverse=m::(List.range m).reverse:=by refine List.range_succ.symm▸List.reverse_append.symm▸?_;rfl
inductive Xr(T:aj)(Y:Mem)(rest:aj)(B:aw)(σ':Mem):Prop where
 |mk (j:Nat) (v6 v7 v8 v9 v10:V) (hr:B=vP T Y.n v6 v7 v8 v9 v10) (h:nq T Y σ' j) (he:rest=(List.range j).reverse) (hj:j<=24):Xr T Y rest B σ'
inductive Xs(T:aj)(Y:Mem)(v7 v8 v9 v10:V)(b:Nat)(rest:aj)(B:aw)(σ':Mem):Prop where
 |mk (j m:Nat) (v6 vQ DV:V) (hr:B=[.str T,.int 24,.aC,.ref Y.n,.ref (Y.n+1),.ref (Y.n+2),v6,v7,v8,v9,v10,.ref b,vQ,DV]) (h:nq T Y σ' 0) (hb:Y.n+2<b) (VI:b<σ'.n) (ho:σ'.f b= .list ((List.range j).map (la T))) (he:rest=List.range' j m) (hj:j+m=12):Xs T Y v7 v8 v9 v10 b rest B σ'
def DW{T:aj}{j:Nat}(G:T.length=24)(t:j<24):j<=cL T j/\cL T j<=24/\(cG (T.drop j)).1.length<=24:=by have h:=uW (T.drop j);rw[fk,G]at h;exact⟨Nat.le_sub_of_add_le (aa (mY (aa (hV _ _) h) j) (bO (oK (bo t)))),iK _ _,aa (av _ _) (aa h (iK _ _))⟩
def CJ(H:Hd J){T:aj}(I:T.length=24)(h:∀σ',Ext Y σ'->Q (.list ((List.range 12).map (la T))) σ'):aJ J (d+2) (.glob oq) [.str T] [] [] Q Y:=by
 apply vJ H _;have hlen:∀{B:aw},B[0]? =some (.str T)->Ev J (d+1) (.call (.bT 24) [.var 0] [] []) B Y (.int (24:Nat)):=λ hf=>AB (v:= .str T) (qK hf vn) rfl (aF some I) dD;apply bW (v:= .int 24) (hlen rfl);apply unpack_;refine kA (vi:= .it false [.int 0,.int 1,.int 2]) (x:=(false,[.int 0,.int 1,.int 2],λ D=>True)) aB rfl ?_;refine⟨trivial,rfl,trivial,rfl,trivial,rfl,trivial,rfl,rfl,?_⟩;have YU:((List.replicate 26 [(V.tuple [.int 24,.str []])]).flatten)=List.replicate 26 (V.tuple [.int 24,.str []]):=by rfl
 have u:T.drop 24=[]:=List.drop_eq_nil_of_le (bO I);have z:T.drop 25=[]:=List.drop_eq_nil_of_le (by refine I.symm▸?_;decide);have n1:Y.n≠Y.n+1:=(ny _).symm;have n2:Y.n≠Y.n+2:=off (a:=0) dD;have n3:Y.n+1≠Y.n+2:=off dD;have h0:nq T Y (((Y.alloc (.list (List.replicate 26 (V.tuple [.int 24,.str []])))).alloc (.list (List.replicate 26 (V.tuple [.int 24,.str []])))).alloc (.list (List.replicate 26 (V.tuple [.int 24,.str []])))) 24:=
  ⟨((Ext.alloc _ _).jV _).jV _,bz _,⟨_,i7 (i7 (Mem.aY _ _) n1) n2,.new (by refine(?_:de (cG (T.drop 24))=_);rw[u];rfl) (by refine(?_:de (cG (T.drop 25))=_);rw[z];rfl)⟩,⟨_,i7 (Mem.aY _ _) n3,.new (by refine(?_:de (oA mT (T.drop 24))=_);rw[u];rfl) (by refine(?_:de (oA mT (T.drop 25))=_);rw[z];rfl)⟩,⟨_,Mem.aY _ _,.new (by refine(?_:de (oA isQ (T.drop 24))=_);rw[u];rfl) (by refine(?_:de (oA isQ (T.drop 25))=_);rw[z];rfl)⟩⟩
 refine(?_:wSs J pg (d+1) _ (c7 Q) (vP T Y.n .aC .aC .aC .aC .aC) (((Y.alloc (.list (List.replicate 26 (V.tuple [.int 24,.str []])))).alloc (.list (List.replicate 26 (V.tuple [.int 24,.str []])))).alloc (.list (List.replicate 26 (V.tuple [.int 24,.str []])))));generalize (((Y.alloc (.list (List.replicate 26 (V.tuple [.int 24,.str []])))).alloc (.list (List.replicate 26 (V.tuple [.int 24,.str []])))).alloc (.list (List.replicate 26 (V.tuple [.int 24,.str []]))))=dA at h0;refine pD (λ k:Nat=>V.int (k:Int)) (vi:= .it false (nums (List.range 24).reverse)) (l:=(List.range 24).reverse) (g:=λ D=>True) (λ K q=> ?_) rfl (Xr T Y) ⟨24,_,_,_,_,_,rfl,h0,rfl,ah _⟩ (λ D D D D=>trivial) ?_ ?_;have C:cF J (d+1) [.bin .Sub (.var 1) (.lit (.int 1)),.neg (.lit (.int 1)),.neg (.lit (.int 1))] (vP T Y.n .aC .aC .aC .aC .aC) dA [.int 23,.int (-1),.int (-1)]:=cF.cons rfl (Ev.bin (va:= .int 24) (vb:= .int 1) aB aB rfl) (cF.cons rfl aB (cF.one rfl λ K k=>k));refine C _ ?_;exact Pu▸q
 ·rintro a rest B r K ⟨j,y,L,A,e,v10,rfl,hi,he,s⟩ kk;induction j using nC with
  |zero=>exact PR he|succ j=>
  rw[uX]at he;obtain⟨rfl,rfl⟩:=jF he;obtain⟨c,rs,hc,hg⟩:=Mf (T:=T) (j:=a) (by exact I▸s);have hs:Ev J (d+1) (.sub (.var 0) (.var 6)) (vP T Y.n (.int (a:Int)) L A e v10) r (.str [c]):=Ev.sub (va:= .str T) (vb:= .int (a:Int)) aB aB ((ar (af (by refine I.symm▸?_;decide))).trans (aF (Option.map _) ((pK T a).trans hg)));have hk:Ev J (d+1) (.slice (.var 0) (some (.bin .Add (.var 6) (.lit (.int 1)))) (some (.bin .Add (.var 6) (.lit (.int 2))))) (vP T Y.n (.int (a:Int)) L A e v10) r (.str (rs.take 1)):=by refine mA (vo:= .str T) (l:=some ((a+1:Nat):Int)) (h:=some (((a+1:Nat):Int)+((1:Nat):Int))) aB (λ K=>c9 (Ev.bin (va:= .int (a:Int)) (vb:= .int 1) aB aB rfl)) (λ K=>c9 (Ev.bin (va:= .int (a:Int)) (vb:= .int 2) aB aB rfl)) ?_;refine(ar (af (by refine I.symm▸?_;decide))).trans ?_;exact(yt (by exact I▸s)).symm▸(drop_cons hc).symm▸rfl
  apply unpack_;have UZ:cF J (d+1) [.sub (.var 0) (.var 6),.slice (.var 0) (some (.bin .Add (.var 6) (.lit (.int 1)))) (some (.bin .Add (.var 6) (.lit (.int 2))))] (vP T Y.n (.int (a:Int)) L A e v10) r [.str [c],.str (rs.take 1)]:=cF.cons rfl hs (cF.one rfl hk);refine UZ _ ⟨rfl,?_⟩;exact Sg H I hi s hc λ p w9 oF N=>(kk _ _ ⟨a,_,_,_,_,_,rfl,N,rfl,bo s⟩).1
 rintro B r ⟨j,y,L,A,e,v10,rfl,hi,he,s⟩;have YV:j=0:=by induction j using nC with
  |zero=>rfl|succ j=>rw[uX]at he;exact PQ he
 subst YV;refine r8 (v:= .ref r.n) (σ':=r.alloc (.list [])) aB ?_;have ne:∀{i:Nat},i<=Y.n+2->i≠r.n:=λ h=>az (bt h hi.n);have keep:∀{p:Mem}{o:O}{b:Nat},nq T Y p 0->Y.n+2<b->nq T Y (p.set b o) 0:=λ{p o b} t U=>by obtain⟨ex,n,⟨F,f1,f2⟩,⟨G,g1,g2⟩,⟨P,E,f⟩⟩:=t;have nb:∀{i:Nat},i<=Y.n+2->i≠b:=λ h=>az (bt h U);exact⟨ex.set (bo (bt (av _ 2) U)) _,n,⟨F,aZ (nb (av _ 2)) f1,f2⟩,⟨G,aZ (nb (bR _)) g1,g2⟩,⟨P,aZ (nb (ah _)) E,f⟩⟩
 have h1:nq T Y (r.alloc (.list [])) 0:=by obtain⟨ex,n,⟨F,f1,f2⟩,⟨G,g1,g2⟩,⟨P,E,f⟩⟩:=hi;exact⟨ex.jV _,fF n,⟨F,i7 f1 (ne (av _ 2)),f2⟩,⟨G,i7 g1 (ne (bR _)),g2⟩,⟨P,i7 E (ne (ah _)),f⟩⟩
 refine pD (λ k:Nat=>V.int (k:Int)) (vi:= .it false (nums (List.range 12))) (l:=List.range 12) (g:=λ D=>True) (Ev.range rfl (Ev.bin (va:= .int ((24:Nat):Int)) (vb:= .int ((2:Nat):Int)) aB aB (pM 24 2 dD dD)) dD) rfl (Xs T Y L A e v10 r.n) ⟨0,12,_,_,_,rfl,h1,hi.n,bz _,Mem.aY _ _,rfl,rfl⟩ (λ D D D D=>trivial) ?_ ?_
 ·rintro a rest B p K ⟨j,m,y,vQ,DV,rfl,N,U,VI,ho,he,M⟩ kk;induction m using nC with
  |zero=>exact PR he|succ m=>
  obtain⟨rfl,rfl⟩:=jF he;have C:a<12:=ai (qU (ji m)) (bO M);have Si:a<24:=fz C dD;obtain⟨e1,e2,e3⟩:=DW I Si;apply unpack_;refine Cu (v:=R0 T a) (Ev.sub (va:= .ref Y.n) (vb:= .int (a:Int)) aB aB (N.r0 (cI _) (fz C dD))) ⟨rfl,?_⟩;have xo:Ev J (d+1) (.slice (.var 0) (some (.var 6)) (some (.var 12))) [.str T,.int 24,.aC,.ref Y.n,.ref (Y.n+1),.ref (Y.n+2),.int (a:Int),L,A,e,v10,.ref r.n,.int (cL T a:Nat),.str (cG (T.drop a)).1] p (.str ((T.drop a).take (cL T a-a))):=by refine mA (vo:= .str T) (l:=some (a:Int)) (h:=some ((a:Int)+((cL T a-a:Nat):Int))) aB (λ K=>c9 aB) (λ K=>c9 (n:=(a:Int)+((cL T a-a:Nat):Int)) (λ K k=>by rw[<-Int.natCast_add,oK e1]at k;exact k)) ?_;refine(ar (af (by refine I.symm▸?_;decide))).trans ?_;exact(yt (by exact I▸bo Si)).symm▸rfl
  have VK:Ev J (d+1) (.a9 (.slice (.var 0) (some (.var 6)) (some (.var 12))) 8 [.lit (.str [10])]) [.str T,.int 24,.aC,.ref Y.n,.ref (Y.n+1),.ref (Y.n+2),.int (a:Int),L,A,e,v10,.ref r.n,.int (cL T a:Nat),.str (cG (T.drop a)).1] p (.int (((T.drop a).take (cL T a-a)).count 10:Nat)):=λ K k=>i8 xo (x:=(.bm .lS,[.str ((T.drop a).take (cL T a-a))])) rfl (w:= .str [10]) aB (c8 (J:=J) (d:=d+1) rfl rfl k);have hl:((List.range a).map (la T)).length<=100000:=by rw[a7,eB];exact aa (bo C) dD
  refine dJ (a:=r.n) (v:=la T a) aB ho hl (cF.one rfl (Ev.tuple (cF.cons rfl aB (cF.cons rfl aB (cF.one rfl (Ev.bin (va:= .int ((1:Nat):Int)) aB VK (sP _ _))))))) ?_;refine(kk _ _ ⟨a+1,m,_,_,_,rfl,keep N U,U,VI,?_,rfl,(fD a 1 m).trans M⟩).1;rw[Mem.aR,List.range_succ,eG];rfl
 rintro B p ⟨j,m,y,vQ,DV,rfl,N,U,VI,ho,he,M⟩;have hm:m=0:=by induction m using nC with
  |zero=>rfl|succ m=>exact PQ he
 subst hm;have s:j=12:=M;subst s;refine(?_:opt (p.f r.n).eI _);exact ho▸h _ (N.ex.set (bo (bt (av _ 2) U)) _)
def uY{α:Type}{l:List α}{j:Nat}(h:j<=l.length):cg l (some (j:Int)) none=l.drop j:=by refine(?_:(l.drop (clipAt l.length (j:Int))).take (l.length-clipAt l.length (j:Int))=_);rw[sN,Nat.min_eq_left h];exact lM (bO fk)
def w2{f e:ME}{b:V}{K:fA}(hf:Ev J d f B Y b)(M:e.isStar=false)(h:wE J pg d e (λ v Y=>fM J d b [v] [] [] K Y) B Y):wE J pg d (.call f [e] [] []) K B Y:=hf _ (by
 refine(?_:wEs J pg d [e] (λ vs Y=>fM J d b vs [] [] K Y) B Y)
 cases e with
 |star a=>exact nf M.symm|_=>exact h)
def AM(H:A9 J){T:aj}{j:Nat}(G:T.length=24)(r:j<24)(h:∀σ',Ext Y σ'->Q (la T j) σ'):aJ J (d+5) (.glob mu) [.str T,.int (j:Int)] [] [] Q Y:=by
 apply uE H.hd _ _;have t:(T.drop j).length=24-j:=by rw[fk,G]
 refine et (fh (a:=a6) aB (lE (vs:=[.str (T.drop j)]) (cF.one rfl (mA (vo:= .str T) (l:=some (j:Int)) (h:=none) aB (λ K=>c9 aB) (λ K=>pO) ?_)) ?_));refine(ar (af (by rw[G];decide))).trans ?_;rw[uY (by rw[G];exact bo r)];refine yw (d:=d+1) H (by rw[t];exact aa (iK _ _) dD) λ i I U E=> ?_;refine(?_:wSs J pg (d+4) _ (c7 Q) [.str T,.int (j:Int),.ref (Y.n+4),.aC,.aC] i);refine et (my (v:= .ref (Y.n+4)) aB (RV U dD rfl) ?_);refine yv H U λ A k L u ch=> ?_;refine(?_:wSs J pg (d+4) _ (c7 Q) [.str T,.int (j:Int),.ref (Y.n+4),.str (cG (T.drop j)).1,.aC] A);have N:Ext Y A:=I.Pc ch (av _ 4) (av _ 2);obtain⟨l,⟨ln2,q,s⟩,c,⟨g,C,o⟩,p,lt,ne,f,len,w⟩:=L;refine bW (v:= .int (Ka (T.drop j) k)) (gQ aB l rfl rfl vn) ?_;apply DL;have hlen:Ev J (d+4) (.call (.bT 24) [.var 0] [] []) [.str T,.int (j:Int),.ref (Y.n+4),.str (cG (T.drop j)).1,.int (Ka (T.drop j) k)] A (.int (24:Nat)):=AB (v:= .str T) aB rfl (aF some G) dD;have u:(T.drop j).drop k=(cG (T.drop j)).2:=u;have w:k<=(T.drop j).length:=w;have z:k<=24-j:=t▸w;have hle:(cG (T.drop j)).2.length<=24:=aa (aa (hV _ _) (uW (T.drop j))) (aa (bO t) (iK _ _));have hrest:(cG (T.drop j)).2.length=24-j-k:=by rw[<-t,<-fk];exact aF List.length u.symm
 have M:cL T j=j+k:=by unfold cL;rw[hrest,Nat.sub_sub,Nat.sub_sub_self (Nat.add_le_of_le_sub' (bo r) z)]
 refine(?_:wE J pg (d+4) (.bin .Sub (.call (.bT 24) [.var 0] [] []) (.call (.bT 24) [.a9 (.attr (.var 2) 1) 12 [.call (.bT 24) [.var 0] [] []]] [] [])) _ _ _);apply hlen _;refine w2 (b:= .bi .len) aB rfl ?_;refine my (v:= .ref Y.n) (x:=(.ref (Y.n+3),[])) (gQ aB l rfl rfl vn) (aF (j7 pg · (.ref Y.n) 12) s) (lE (cF.one rfl hlen) ?_);refine(?_:aJ J (d+4) (.ref (Y.n+3)) [.int (24:Nat)] [] [] _ A);apply AG (d:=d+3) H c C len (aa (bO o) w);rw[o];rw[show((T.drop j).drop k).take 24=(cG (T.drop j)).2 from(aF (List.take 24) u).trans (lM hle)];have y:Ext Y (A.set (Y.n+2) (.list (g++chars (cG (T.drop j)).2))):=N.set (av _ 2) _;refine kZ (v:= .int ((cG (T.drop j)).2.length:Nat)) (σ':=A.set (Y.n+2) (.list (g++chars (cG (T.drop j)).2))) ?_ ?_;exact ar (af (aa hle dD));apply cz (I0 (a:=24) hle);refine lE (vs:=[.str (cG (T.drop j)).1,.int (Ka (T.drop j) k)]) (cF.cons rfl aB (cF.one rfl λ K k=>k)) ?_;have e:la T j= .tuple [.int ((24-(cG (T.drop j)).2.length:Nat):Int),.str (cG (T.drop j)).1,.int (Ka (T.drop j) k)]:=by unfold la;rw[M,Nat.add_sub_cancel_left,<-M];rfl
 exact(show Q (.tuple [.int ((24-(cG (T.drop j)).2.length:Nat):Int),.str (cG (T.drop j)).1,.int (Ka (T.drop j) k)]) _ from e▸h _ y)
noncomputable def jb(c:Nat):Bool:=decide (b5 c<64)
noncomputable abbrev fj:aj:=[0,1,26,61]
def Ju{s:A2}{c:Nat}(h:jb c=false)(l:c≠61):mR s c=s:=(au l).trans (ar (Nat.le_of_not_lt (of_decide_eq_false h)))
def FR(l:aj):∀s:A2,(∀c∈l,c≠61)->l.foldl mR s=(l.filter jb).foldl mR s:=by induction l with
 |nil=>exact λ s D=>rfl|cons c l z=>intro s h;have z:=λ s=>z s λ x L=>h x (.tail _ L);refine gS.symm▸?_;cases e:jb c with
  |true=>exact z _|false=>refine(?_:l.foldl mR (mR s c)=_);exact Ju e (h c (.head _))▸z s
def Px:∀a∈fj,∀b∈fj,∀c∈fj,∀d∈fj,[a*2^2|||b/2^4,(b&&&15)*2^4|||c/2^2,(c&&&3)*2^6|||d]=qQ (mC a b c d):=by decide+kernel
def pW{s:A2}{c v:Nat}(h:b5 c=v)(n:v∈fj)(l:c≠61):mR s c=match s.q with
 |0=>⟨s.out,1,v,0⟩|1=>⟨s.out++[s.left*2^2|||v/2^4],2,v&&&15,0⟩
 |2=>⟨s.out++[s.left*2^4|||v/2^2],3,v&&&3,0⟩|_=>⟨s.out++[s.left*2^6|||v],0,0,0⟩:=by subst h;exact(au l).trans (au (fB.mpr ((by decide:∀v∈fj,v<64) _ n)))
def FT(k:Nat):∀(l:aj)(s:A2),s.q=0->l.length=4*k->(∀c∈l,c≠61/\b5 c∈fj)->(l.foldl mR s).out=s.out++pT (l.map b5)/\(l.foldl mR s).q=0:=by induction k with
 |zero=>intro l s H I D;obtain rfl:=vY.mp I;exact⟨(dw _).symm,H⟩
 |succ k z=>intro l s H I h;obtain⟨o,q,e,U⟩:=s;have H:q=0:=H;subst H;obtain⟨a,v,i,N,r,rfl⟩:=yJ (l:=l) (by exact I▸iH 4 (ji k));have g1:=h a (.head _);have g2:=h v (.tail _ (.head _));have g3:=h i (.tail _ (.tail _ (.head _)));have w:=h N (.tail _ (.tail _ (.tail _ (.head _))));refine(?_:(r.foldl mR (mR (mR (mR (mR ⟨o,0,e,U⟩ a) v) i) N)).out=o++pT (b5 a::b5 v::b5 i::b5 N::r.map b5)/\(r.foldl mR (mR (mR (mR (mR ⟨o,0,e,U⟩ a) v) i) N)).q=0);rw[pW (s:=⟨o,0,e,U⟩) rfl g1.2 g1.1];refine(pW (c:=v) rfl g2.2 g2.1).symm▸?_;refine(pW (c:=i) rfl g3.2 g3.1).symm▸?_;refine(pW (c:=N) rfl w.2 w.1).symm▸?_;obtain⟨n,A⟩:=z r ⟨o++[b5 a*2^2|||b5 v/2^4]++[(b5 v&&&15)*2^4|||b5 i/2^2]++[(b5 i&&&3)*2^6|||b5 N],0,0,0⟩ rfl (Nat.add_right_cancel (m:=4) (by exact I)) λ c p=>h c (.tail _ (.tail _ (.tail _ (.tail _ p))));refine⟨n.trans ?_,A⟩;have b:=Px _ g1.2 _ g2.2 _ g3.2 _ w.2;refine(?_:(o++[_]++[_]++[_])++pT (r.map b5)=o++(qQ (mC (b5 a) (b5 v) (b5 i) (b5 N))++pT (r.map b5)));rw[<-b,hZ o,hZ o,hZ o];rfl
def Py{s vs:aj}{k:Nat}(l:∀c∈s,c≠61)(n:(s.filter jb).map b5=vs)(u:vs.length=4*k)(hp:∀v∈vs,v∈fj):(dec s).out=pT vs/\(dec s).q=0:=by subst n;delta dec;rw[FR s _ l];refine FT k (s.filter jb) ⟨[],0,0,0⟩ rfl (by rw[<-u,a7]) λ c w=>⟨l c (kK.mp w).1,hp _ (List.mem_map_of_mem w)⟩
def AN{p:Nat->Bool}(hp:∀c,p c=true->jb c=false)(l:aj):∀e,∃pre,l=pre++(dW p l e []).2/\(dW p l e []).1.filter jb=pre.filter jb:=by induction l with
 |nil=>exact λ e=>⟨[],rfl,rfl⟩|cons c r z=>
  have one:∃pre,c::r=pre++(dW p r false ([]++[c])).2/\(dW p r false ([]++[c])).1.filter jb=pre.filter jb:=by rw[mD r false ([]++[c])];obtain⟨pre,M,N⟩:=z false;refine⟨c::pre,aF (c::·) M,?_⟩;refine(?_:([c]++(dW p r false []).1).filter jb=([c]++pre).filter jb);rw[jH,jH,N]
  have skip:jb c=false->∀x:aj×aj,(∃pre,r=pre++x.2/\x.1.filter jb=pre.filter jb)->∃pre,c::r=pre++x.2/\x.1.filter jb=pre.filter jb:=λ w x ⟨pre,M,N⟩=>⟨c::pre,aF (c::·) M,by refine gS.symm▸w.symm▸?_;exact N⟩;intro e;induction e with
  |true=>exact one|false=>by_cases h:p c=true;exact dQ h▸skip (hp c h) ([],r) ⟨[],rfl,rfl⟩;have h:=kM.mpr h;by_cases N:c=92;rw[N]at h skip⊢;exact fY h▸skip dD _ (z true);exact fX h N▸one
def DY{c:Nat}(h:mT c=true):jb c=false:=by have m:c∈J9:=ae h;rcases aT.mp m with rfl|m;decide;rcases aT.mp m with rfl|m;decide;rcases aT.mp m with rfl|m;decide;exact bX.mp m▸by decide
def Mg{c:Nat}(h:isQ c=true):jb c=false:=(ae h:c=34)▸by decide
def Jv(l:aj):∃pre,l=pre++(cG l).2/\(cG l).1.filter jb=pre.filter jb:=by induction l with
 |nil=>exact⟨[],rfl,rfl⟩|cons c r z=>have skip:jb c=false->∀x:aj×aj,(∃pre,r=pre++x.2/\x.1.filter jb=pre.filter jb)->∃pre,c::r=pre++x.2/\x.1.filter jb=pre.filter jb:=λ w x ⟨pre,M,N⟩=>⟨c::pre,aF (c::·) M,by refine gS.symm▸w.symm▸?_;exact N⟩;by_cases h:mT c=true;refine(pV h).symm▸?_;exact skip (DY h) _ z;have h:=kM.mpr h;by_cases N:c=34;subst N;exact skip dD _ (AN (λ c=>Mg) r false);exact pU h N▸AN (λ c=>DY) (c::r) false
def pX{T:aj}{j:Nat}(G:T.length=24)(t:j<=24):(cG (T.drop j)).1.filter jb=((T.drop j).take (cL T j-j)).filter jb:=by
 obtain⟨pre,M,N⟩:=Jv (T.drop j);refine N.symm▸?_;have I:=aF List.length M;rw[bH,fk,G]at I;have e:cL T j-j=pre.length:=by delta cL;rw[Nat.sub_right_comm,I,Nat.add_sub_cancel]
 refine e.symm▸?_;refine aF (List.filter jb) ?_;generalize (cG (T.drop j)).2=r at M;rw[M,List.take_left'];rfl
def Ev.neg{a:ME}{i:Int}(C:Ev J d a B Y (.int i)):Ev J d (.neg a) B Y (.int (-i)):=λ K k=>C _ k
def AO{α:Type}(x:α)(n:Nat):(List.replicate n [x]).flatten=List.replicate n x:=by induction n with
 |zero=>rfl|succ n z=>exact aF (x::·) z
def Pz(n:Nat)(p:n<=20):∃s k:Nat,Int.fmod (-(n:Int)) 4=(s:Int)/\n+s=4*k/\s<4:=by
 have key:∀n:Fin 21,Int.fmod (-(n.1:Int)) 4=(((4-n.1%4)%4:Nat):Int)/\n.1+(4-n.1%4)%4=4*((n.1+(4-n.1%4)%4)/4)/\(4-n.1%4)%4<4:=by decide
 exact⟨_,_,key ⟨n,Nat.lt_succ_of_le p⟩⟩
noncomputable abbrev jd(l:aj):aj:=l.filter λ f=>decide (f<62)
def DZ(l:aj):l.flatMap (λ f:Nat=>if decide (f<62)=true then[V.int (f:Int)]else[])=nums (jd l):=by induction l with
 |nil=>rfl|cons f l z=>refine List.flatMap_cons.symm▸z.symm▸(show jd (f::l)=if decide (f<62)=true then f::jd l else jd l from gS).symm▸?_;cases decide (f<62)<;>rfl
structure Tells(w kD:aj):Prop where
 v:(w.filter jb).map b5=jd kD
 a:∀c∈w,c<128/\c≠61
 p:∀v∈jd kD,v∈fj
def D3{v:Nat}(h:v∈fj):v<64:=(by decide:∀v∈fj,v<64) v h
def rL(H:Hd J){w o:aj}(t:Tells w o)(g:w.length<=1000)(hf:o.length<=20)(h:∀σ',Ext Y σ'->Q (.bool true) σ'):aJ J (d+4) (.glob jA) [.str w,.list (nums o)] [] [] Q Y:=by
 apply uI H _ _;have E:(jd o).length<=20:=aa (qf _ _) hf;refine bW (v:= .list (nums (jd o))) (λ K k=> ?_) ?_;refine kA (vi:= .list (nums o)) aB rfl (eu (λ f:Nat=>V.int (f:Int)) (λ f=>if decide (f<62)=true then[V.int (f:Int)]else[]) (λ σ'=>σ'=Y) (λ D D=>trivial) o [] Y (λ f D K' σ' e T=> ?_) rfl ?_ λ σ' e=> ?_);subst e;have T:=T _ rfl;refine yE (v:= .bool (decide (f<62))) (q:=decide (f<62)) (Ev.cmp (va:= .int (f:Int)) (vb:= .int ((62:Nat):Int)) aB aB (aF some (decide_eq_decide.mpr oH))) rfl ?_;cases M:decide (f<62)with
 |false=>rw[M]at T;exact T|true=>rw[M]at T;exact T
 rw[DZ];exact aa (bO ((aF List.length (iM _)).trans (bh _))) (aa E dD);subst e;rw[DZ];exact⟨af (aa (bO (bh _)) (aa E dD)),k⟩;obtain⟨s,k,z,i,N⟩:=Pz (jd o).length E;refine bW (v:= .int (s:Int)) (Ev.bin (va:= .int (-((jd o).length:Int))) (vb:= .int 4) (Ev.neg (AB (v:= .list (nums (jd o))) (n:=(jd o).length) aB rfl (aF some (bh _)) (aa E dD))) aB ?_) ?_;skip;refine z.symm▸?_;rfl;have j:k<=6:=iG (Nat.lt_of_mul_lt_mul_left (a:=4) (c:=7) (bt (bO i.symm) (show _<20+8 from Nat.add_lt_add_of_le_of_lt E (fz N dD))));have x:decide ((0:Int)<=(s:Int))=true:=af (dN s);have G:decide ((s:Int)<=1000)=true:=af (gb.mpr (aa (bo N) dD));have y:lV Y .Mult (.str [65]) (.int (s:Int))=some (.str (List.replicate s 65)):=
  (ar (jI x (jI G rfl))).trans (aF (λ l=>some (V.str l)) (AO 65 s))
 have M:lV Y .Mult (.list [.int 0]) (.int (s:Int))=some (.list (nums (List.replicate s 0))):=
  (ar (jI x (jI G rfl))).trans (aF (λ l=>some (V.list l)) ((AO (V.int 0) s).trans (List.map_replicate (f:=λ k:Nat=>V.int (k:Int)) (n:=s) (a:=0)).symm))
 have C:∀c∈w++List.replicate s 65,c<128/\c≠61:=λ c A=>(bK.mp A).elim (t.a c) λ h=>List.eq_of_mem_replicate h▸by decide
 have hp:∀v∈jd o++List.replicate s 0,v∈fj:=λ v p=>(bK.mp p).elim (t.p v) λ h=>List.eq_of_mem_replicate h▸.head _;have hlen:(jd o++List.replicate s 0).length=4*k:=by exact bH.symm▸s6.symm▸i.symm▸rfl
 have F9:((w++List.replicate s 65).filter jb).map b5=jd o++List.replicate s 0:=by rw[jH,eG,t.v,List.filter_replicate,ar dD,List.map_replicate];rfl
 obtain⟨d1,u⟩:=Py (λ c A=>(C c A).2) F9 hlen hp;have U:∀b∈pT (jd o++List.replicate s 0),b<256:=by
  have key:∀(k:Nat)(l:aj),l.length=4*k->(∀v∈l,v<64)->∀b∈pT l,b<256:=by intro k;induction k with
   |zero=>intro l I D b U;obtain rfl:=vY.mp I;exact absurd U ck
   |succ k ih=>intro l I p b U;obtain⟨c1,c2,c3,c4,r,rfl⟩:=yJ (l:=l) (by refine I.symm▸?_;exact iH 4 (ji k));rcases bK.mp U with U|U;exact yL (yK (p _ (.head _)) (p _ (.tail _ (.head _))) (p _ (.tail _ (.tail _ (.head _)))) (p _ (.tail _ (.tail _ (.tail _ (.head _)))))) b U;exact ih r (Nat.add_right_cancel (m:=4) (by exact I)) (λ v L9=>p v (.tail _ (.tail _ (.tail _ (.tail _ L9))))) b U
  exact key k _ hlen λ v p=>D3 (hp v p)
 refine DM (pP ?_);have L:(w++List.replicate s 65).length<=1004:=by refine bH.symm▸s6.symm▸?_;exact dS g (bo N)
 refine fh (a:=mq) aB (lE (vs:=[.str (w++List.replicate s 65)]) (cF.one rfl (Ev.bin (va:= .str w) aB (Ev.bin (va:= .str [65]) (vb:= .int (s:Int)) aB aB y) (ar (af (by refine bH▸?_;exact aa L dD))))) ?_);refine yr (d:=d) H _ _ (aa L dD) (λ c A=>(C c A).1) (by refine u.symm▸?_;decide) (.inl u) d1 U λ aX x1=> ?_;have YW:lV aX .Mult (.list [.int 0]) (.int (s:Int))=some (.list (nums (List.replicate s 0))):=M;refine fh (a:=gI) aB (lE (vs:=[.list (nums (jd o++List.replicate s 0))]) (cF.one rfl (Ev.bin (va:= .list (nums (jd o))) aB (Ev.bin (va:= .list [.int 0]) (vb:= .int (s:Int)) aB aB YW) (add_list (by refine bH▸hlen.symm▸?_;exact aa (iH 4 j) dD)))) ?_);refine nJ (d:=d+2) H hlen j (λ v p=>D3 (hp v p)) λ aU x2=> ?_;refine cz (a:=true) (aF some (f9 _)) ?_;exact h aU (x1.trans x2)
noncomputable def uZ(F:Nat->Nat):Nat->Nat->Nat
 |0,p=>p|n+1,p=>uZ F n (F p)
noncomputable def vR(T:aj)(j:Nat):aj:=(cG (T.drop j)).1
noncomputable def kE(T:aj)(F:Nat->Nat):Nat->Nat->aj
 |0,_=>[]|n+1,p=>vR T p++kE T F n (F p)
noncomputable abbrev dk(T:aj):V:= .list ((List.range 12).map (la T))
def qR{T:aj}{p:Nat}(hp:p<12):iQ Y (dk T) (.int (p:Int))=some (la T p):=by refine(?_:(if decide (((List.range 12).map (la T)).length<=1000000)then idx ((List.range 12).map (la T)) (p:Int)else none)=_);refine(ar (af (by rw[a7,eB];decide))).trans ((pK _ p).trans ?_);refine(gL).symm▸(List.getElem?_range hp).symm▸?_;rfl
def kF{F:Nat->Nat}{p n:Nat}(hp:p<n)(T:n<=1000):iQ Y (.list (nums ((List.range n).map F))) (.int (p:Int))=some (.int (F p:Nat)):=by refine(ar (af (by rw[bh,a7,eB];exact aa T dD))).trans ((pK _ p).trans ?_);refine(gL).symm▸(gL).symm▸(List.getElem?_range hp).symm▸?_;rfl
inductive Xw(T:aj)(F:Nat->Nat)(s:Nat)(Rm:aj)(Y:Mem)(n:Nat)(B:aw)(σ':Mem):Prop where
 |mk (p:Nat) (acc:aj) (hr:B=[.int (s:Int),.list (nums ((List.range 12).map F)),dk T,.int (p:Int),.str acc]) (e:σ'=Y) (hp:p<12) (hn:uZ F n p=s) (hm:∀i,i<n->uZ F i p≠s) (ht:acc++kE T F n p=Rm):Xw T F s Rm Y n B σ'
def AP(H:Hd J){T:aj}{F:Nat->Nat}{s n:Nat}(C:s<12)(hF:∀i,i<12->F i<12)(A:uZ F n (F s)=s)(hm:∀i,i<n->uZ F i (F s)≠s)(L:(vR T s++kE T F n (F s)).length<=1000)(h:Q (.str (vR T s++kE T F n (F s))) Y):aJ J (d+1) (.glob mw) [.int (s:Int),.list (nums ((List.range 12).map F)),dk T] [] [] Q Y:=by
 apply uH H _ _ _;apply unpack_;have he:cF J d [.sub (.var 1) (.var 0),.sub (.sub (.var 2) (.var 0)) (.lit (.int 1))] [.int (s:Int),.list (nums ((List.range 12).map F)),dk T,.aC,.aC] Y [.int (F s:Nat),.str (vR T s)]:=
  cF.cons rfl (Ev.sub (va:= .list (nums ((List.range 12).map F))) (vb:= .int (s:Int)) aB aB (kF C dD)) (cF.one rfl (Ev.sub (va:=la T s) (vb:= .int 1) (Ev.sub (va:=dk T) (vb:= .int (s:Int)) aB aB (qR C)) aB rfl))
 refine he _ ⟨rfl,?_⟩;apply yl (Xw T F s (vR T s++kE T F n (F s)) Y) n ⟨F s,_,rfl,rfl,hF s C,A,hm,rfl⟩;rintro m B σ' ⟨p,acc,rfl,rfl,hp,z,u,I⟩;refine⟨.bool (!((p:Int)==(s:Int))),!((p:Int)==(s:Int)),Ev.cmp (va:= .int (p:Int)) (vb:= .int (s:Int)) aB aB rfl,rfl,λ e K k1 k2=> ?_,λ e=> ?_⟩
 ·induction m using nC with
  |zero=>exact absurd z (O2 (jJ e))|succ m=>
  have a:acc.length+(vR T p).length<=1000:=by refine aa ?_ L;refine I▸bH▸?_;refine(?_:_<=(acc++(vR T p++kE T F m (F p))).length);rw[<-hZ,bH (as:=acc++vR T p)];exact av _ _
  apply et;have g:Ev J d (.sub (.sub (.var 2) (.var 3)) (.lit (.int 1))) [.int (s:Int),.list (nums ((List.range 12).map F)),dk T,.int (p:Int),.str acc] σ' (.str (vR T p)):=Ev.sub (va:=la T p) (vb:= .int 1) (Ev.sub (va:=dk T) (vb:= .int (p:Int)) aB aB (qR hp)) aB rfl;refine g _ (cz (show vm σ' .Add (.str acc) (.str (vR T p))=some (.str (acc++vR T p),σ') from ar (af (aa a dD))) ?_);refine bW (v:= .int (F p:Nat)) (Ev.sub (va:= .list (nums ((List.range 12).map F))) (vb:= .int (p:Int)) aB aB (kF hp dD)) ?_;exact(k1 m _ _ (bz m) ⟨F p,_,rfl,rfl,hF p hp,z,λ i hi=>u (i+1) (Nat.succ_lt_succ hi),by rw[hZ];exact I⟩).1
 ·have y:p=s:=RN (by
   cases r:((p:Int)==(s:Int))with
   |true=>rfl|false=>rw[r]at e;exact Bool.noConfusion e)
  induction m using nC with
  |succ m=>exact absurd y (u 0 (ji m))|zero=>have I:acc++[]=_:=I;rw[dw]at I;subst I;exact h
noncomputable def PA(F:Nat->Nat)(S:aj):aj:=(List.range 12).filter λ x=>decide (x∈S.map F)
noncomputable def hM(F:Nat->Nat):Nat->aj
 |0=>List.range 12|k+1=>PA F (hM F k)
noncomputable def qb(F:Nat->Nat)(k:Nat):aj:=(hM F k).filter λ p=> !decide (p∈hM F (k+1))
def oB{F:Nat->Nat}{k x:Nat}(h:x∈hM F k):x<12:=by induction k using nC with
 |zero=>exact dY.mp h|succ k=>exact dY.mp (kK.mp h).1
def D4(F:Nat->Nat)(k:Nat):(hM F k).length<=12:=by induction k using nC with
 |zero=>exact ah 12|succ k=>exact aa (qf (λ x=>decide (x∈(hM F k).map F)) (List.range 12)) (bO eB)
def jD{F:Nat->Nat}(hF:∀i,i<12->F i<12){k x:Nat}:x∈hM F (k+1)↔∃p∈hM F k,F p=x:=by refine(kK.trans ?_);rw[decide_eq_true_iff,bV];refine⟨λ h=>h.2,λ h=>⟨?_,h⟩⟩;obtain⟨p,hp,e⟩:=h;exact dY.mpr (e▸hF p (oB hp))
def CK(l:aj):setOf (nums l)=(l.map λ k:Nat=>(k:Int)).foldl insI []:=by apply aF (List.foldl insI []);induction l with
 |nil=>rfl|cons k l z=>exact aF ((k:Int)::·) z
def Jw(l:List Int):∀acc:List Int,acc.Nodup->(l.foldl insI acc).Nodup/\∀k,k∈l.foldl insI acc↔k∈acc\/k∈l:=by induction l with
 |nil=>exact λ acc h=>⟨h,λ k=>⟨.inl,λ h=>h.elim id mn⟩⟩|cons a l z=>intro acc h;obtain⟨M,N⟩:=z (insI acc a) (wb h a);refine⟨M,λ k=>(N k).trans ?_⟩;rw[w8,aT,or_assoc]
def FU{xs ys:List Int}(L:xs.Nodup)(T:ys.Nodup)(h:∀k,k∈xs↔k∈ys):ys.Perm xs:=oi L (λ k u=>(h k).mp u) (w4 (T.length_le_of_subset λ k u=>(h k).mpr u) (L.length_le_of_subset λ k u=>(h k).mp u))
def u0{l:aj}(h:l.Nodup):(l.map λ k:Nat=>(k:Int)).Nodup:=List.Pairwise.map _ (λ a b x e=>x (Int.ofNat.inj e)) h
def AQ(p:Nat->Bool):((List.range 12).filter p).Pairwise (·<·):=List.pairwise_lt_range.filter _
def Sl{l:aj}(h:l.Pairwise (·<·)):(l.map λ k:Nat=>(k:Int)).Pairwise (·<=·):=List.Pairwise.map _ (λ a b x=>gb.mpr (bo x)) h
def Jx{l:aj}(h:l.Pairwise (·<·)):l.Nodup:=h.imp λ a=>az a
def D5{l:aj}{xs:List Int}(h:l.Pairwise (·<·))(L:xs.Nodup)(hm:∀k,k∈xs↔k∈l.map λ k:Nat=>(k:Int)):(sortI xs).map V.int=nums l:=by rw[<-Al (FU L (u0 (Jx h)) hm) (Sl h),fo];rfl
def Mh{F:Nat->Nat}{S:aj}(h:∀p∈S,F p<12):(sortI (setOf (nums (S.map F)))).map V.int=nums (PA F S)/\(setOf (nums (S.map F))).length<=12:=by
 obtain⟨M,N⟩:=Jw ((S.map F).map λ k:Nat=>(k:Int)) [] .nil;rw[CK];have hm:∀k,k∈((S.map F).map λ k:Nat=>(k:Int)).foldl insI []↔k∈(PA F S).map λ k:Nat=>(k:Int):=λ k=>by rw[N k];refine⟨λ q=> ?_,λ q=> ?_⟩;obtain⟨n,T,e⟩:=bV.mp (q.resolve_left mn);obtain⟨p,hp,d⟩:=bV.mp T;exact bV.mpr ⟨n,kK.mpr ⟨dY.mpr (d▸h p hp),af T⟩,e⟩;obtain⟨n,T,e⟩:=bV.mp q;exact .inr (bV.mpr ⟨n,ae (kK.mp T).2,e⟩)
 refine⟨D5 (AQ _) M hm,?_⟩;apply aa (M.length_le_of_subset λ k u=>(hm k).mp u);rw[a7];exact aa (qf _ (List.range 12)) (bO eB)
def yN(p:Nat)(l:aj):iq (.int (p:Int)) (nums l)=some (decide (p∈l)):=by induction l with
 |nil=>rfl|cons a l z=>refine(?_:((some ((a:Int)==(p:Int))).bind λ x=>(iq (.int (p:Int)) (nums l)).map (x||·))=_);rw[z];apply aF some;by_cases e:p=a;subst e;rw[eq_int,af (show p∈p::l from .head _)];rfl;rw[ne_int (Ne.symm e)];exact(Bool.false_or _).trans (yB ⟨.tail _,λ h=>(aT.mp h).resolve_left e⟩)
def Ev.PB{α:Type}(e:α->V){i:Nat}{it t:ME}{vi:V}{l:List α}{g:Mem->Prop}(hit:Ev J d it B Y vi)(L:jx Y vi=some (false,l.map e,g))(U:g Y)(p:α->Bool)(hi:i<B.length)(I:∀a∈l,Ev J d t (B.set i (e a)) Y (.bool (p a)))(v:∀a,e a≠.aC)(u:l.length<=100000):Ev J d (.comp false (.var i) [i] it [t]) B Y (.list ((l.filter p).map e)):=λ K k=>by
 have hm:l.flatMap (λ a=>if p a=true then[e a]else[])=(l.filter p).map e:=by clear L u I k;induction l with
  |nil=>rfl|cons a l z=>rw[List.flatMap_cons,z,gS];cases p a<;>rfl
 have T:((l.filter p).map e).length<=100000:=by rw[a7];exact aa (qf _ _) u
 refine kA hit L (eu e (λ a=>if p a=true then[e a]else[]) (λ σ'=>σ'=Y) (λ σ' q=>q▸U) l [] Y (λ a C M σ' q m=> ?_) rfl (by rw[iM,hm];exact T) λ σ' q=> ?_);subst q;have m:=m _ rfl;apply yE (I a C) rfl;cases s:p a with
 |false=>rw[s]at m;exact m|true=>rw[s]at m;exact Cu (qK (List.getElem?_set_self hi) (v a)) m
 subst q;rw[iM,hm];exact⟨af T,k⟩
noncomputable def AR(F:Nat->Nat):List aj:=((List.range 12).map (qb F)).filter λ g=>decide (g≠[])
def FV{es:List ME}{K:fA}(h:wEs J pg d es (λ vs Y=>K (.tuple vs) Y) B Y):wE J pg d (.tuple es) K B Y:=h
inductive Xx(F:Nat->Nat)(Y:Mem)(rest:aj)(B:aw)(σ':Mem):Prop where
 |mk (k m:Nat) (v3 v5:V) (hr:B=[.list (nums ((List.range 12).map F)),.list (nums (hM F k)),.ref Y.n,v3,.aC,v5,.aC]) (ex:Ext Y σ') (hn:Y.n<σ'.n) (ho:σ'.f Y.n= .list ((List.range k).map λ i=> .list (nums (qb F i)))) (he:rest=List.range' k m) (hk:k+m=12):Xx F Y rest B σ'
def Mi{a:Nat}{xs:List Int}(h:Y.f a= .w7 xs)(I:xs.length<=12):d8 Y (.bi .sorted) [.ref a]=some (.list ((sortI xs).map .int),Y):=by refine(?_:(match(Y.f a).Bt with|some is=>if decide (is.length<60)then some (V.list ((sortI is).map .int),Y)else none|none=>none)=_);exact h▸ar (af (bt I dD))
def vS(H:Hd J){F:Nat->Nat}(hF:∀i,i<12->F i<12)(h:∀σ',Ext Y σ'->Q (.tuple [.list ((AR F).map λ g=> .list (nums g)),.list (nums (hM F 12))]) σ'):aJ J (d+1) (.glob jU) [.list (nums ((List.range 12).map F))] [] [] Q Y:=by
 apply qJ H _;apply unpack_;have he:∀K:aw->Mem->Prop,K [.list (nums (List.range 12)),.ref Y.n] (Y.alloc (.list []))->wEs J pg d [.wt 12 17 [.lit (.int 12)],.list true []] K [.list (nums ((List.range 12).map F)),.aC,.aC,.aC,.aC,.aC,.aC] Y:=λ K k=>by refine(?_:opt (kQ [.int 12]) λ ws=>short ws=true/\K [.list ws,.ref Y.n] (Y.alloc (.list [])));exact cz (show kQ [.int 12]=some (nums (List.range 12)) from aF some (uM 12)) ⟨rfl,k⟩
 refine FV (he _ ⟨rfl,?_⟩);refine pD (λ k:Nat=>V.int (k:Int)) (vi:= .it false (nums (List.range 12))) (l:=List.range 12) (g:=λ D=>True) (Ev.range (n:=12) rfl aB dD) rfl (Xx F Y) ⟨0,12,_,_,rfl,.alloc _ _,bz _,Mem.aY _ _,rfl,rfl⟩ (λ D D D D=>trivial) ?_ ?_
 ·rintro a rest B r K ⟨k,m,c,j,rfl,ex,T,w,he,u⟩ kk;induction m using nC with
  |zero=>exact PR he|succ m=>
  obtain⟨rfl,rfl⟩:=jF he;have C:a<12:=ai (qU (ji m)) (bO u);obtain⟨M,y⟩:=Mh (F:=F) (S:=hM F a) λ p hp=>hF p (oB hp);have hlen:(hM F a).length<=100000:=aa (D4 F a) dD;refine et (w2 (b:= .bi .sorted) aB rfl ?_);have E:∀K:fA,K (.ref r.n) (r.alloc (.w7 (setOf (nums ((hM F a).map F)))))->wE J pg d (.Ey (.sub (.var 0) (.var 4)) [4] (.var 1)) K [.list (nums ((List.range 12).map F)),.list (nums (hM F a)),.ref Y.n,.int (a:Int),.aC,j,.aC] r:=λ K k=>by refine eu (λ k:Nat=>V.int (k:Int)) (λ p=>[V.int (F p:Nat)]) (λ σ'=>σ'=r) (λ D D=>trivial) (hM F a) [] r (λ p hp N σ' e A=> ?_) rfl (by rw[iM,fy,a7];exact hlen) λ σ' e=> ?_;subst e;have z:Ev J d (.sub (.var 0) (.var 4)) [.list (nums ((List.range 12).map F)),.list (nums (hM F a)),.ref Y.n,.int (a:Int),.int (p:Int),j,.aC] σ' (.int (F p:Nat)):=Ev.sub (va:= .list (nums ((List.range 12).map F))) (vb:= .int (p:Int)) aB aB (kF (oB hp) dD);exact z _ ⟨jI (af (dN _)) (af (oH.mpr (fz (hF p (oB hp)) dD))),A _ rfl⟩;subst e;rw[iM,fy,show(hM F a).map (λ p=>V.int (F p:Nat))=nums ((hM F a).map F) from(fo (f:=F) (g:=λ k:Nat=>V.int (k:Int))).symm];exact k
  refine E _ (c8 (J:=J) (d:=d) rfl (Mi (Mem.aY _ _) y) ?_);refine M.symm▸?_;have t:(r.alloc (.w7 (setOf (nums ((hM F a).map F))))).f Y.n= .list ((List.range a).map λ i=> .list (nums (qb F i))):=i7 w (az T);refine dJ (a:=Y.n) (v:= .list (nums (qb F a))) aB t (by rw[a7,eB];exact aa (bo C) dD) (cF.one rfl (Ev.PB (λ k:Nat=>V.int (k:Int)) (it:= .var 1) (vi:= .list (nums (hM F a))) (l:=hM F a) (g:=λ D=>True) (qK rfl vn) rfl trivial (λ p=> !decide (p∈hM F (a+1))) (by exact(by decide:4<7)) (λ p hp=> ?_) (λ D=>vn) hlen)) ?_;refine Ev.cmp (va:= .int (p:Int)) (vb:= .list (nums (hM F (a+1)))) aB aB ?_;exact aF (Option.map (!·)) (yN p (hM F (a+1)));refine bW (v:= .list (nums (hM F (a+1)))) aB ?_;refine(kk _ _ ⟨a+1,m,_,_,rfl,(ex.jV _).set (ah _) _,fF T,?_,rfl,(fD a 1 m).trans u⟩).1;rw[Mem.aR,List.range_succ,eG];rfl
 rintro B r ⟨k,m,c,j,rfl,ex,T,w,he,u⟩;have hm:m=0:=by induction m using nC with
  |zero=>rfl|succ m=>exact PQ he
 subst hm;have u:k=12:=u;subst u;apply DL;have hf:Ev J d (.comp false (.var 6) [6] (.var 2) [.cmp .NotEq (.var 6) (.list false [])]) [.list (nums ((List.range 12).map F)),.list (nums (hM F 12)),.ref Y.n,c,.aC,j,.aC] r (.list ((AR F).map λ g=> .list (nums g))):=by refine Ev.PB (λ g:aj=>V.list (nums g)) (it:= .var 2) (vi:= .ref Y.n) (l:=(List.range 12).map (qb F)) (g:=λ σ'=>σ'.f Y.n= .list ((List.range 12).map λ i=> .list (nums (qb F i)))) (qK rfl vn) ?_ w (λ g=>decide (g≠[])) (by exact(by decide:6<7)) (λ g D=> ?_) (λ D=>vn) (by rw[a7,eB];decide);refine(?_:zv Y.n (r.f Y.n)=_);rw[w,fo];rfl;refine Ev.cmp (va:= .list (nums g)) (vb:= .list []) aB aB ?_;induction g<;>rfl
 exact lE (cF.cons rfl hf (cF.one rfl λ K k=>k)) (h r ex)
def AS(b:aj):∀(keys:aj)(x:Nat),x∈b.foldl ins keys↔x∈keys\/x∈b:=by induction b with
 |nil=>exact λ keys x=>⟨.inl,λ h=>h.elim id mn⟩|cons p b z=>intro keys x;refine(z (ins keys p) x).trans ⟨λ h=> ?_,λ h=> ?_⟩;refine h.elim (λ h=> ?_) λ h=> .inr (.tail _ h);unfold ins at h;by_cases m:p∈keys;rw[ar m]at h;exact .inl h;rw[au m]at h;exact eM h .inl λ e=> .inr (e▸.head _);exact h.elim (λ h=> .inl (DQ h)) λ h=>(aT.mp h).elim (λ e=> .inl (e▸mU keys p)) .inr
def AU(c:Nat)(b:aj):∀(g:Nat->aj)(x s:Nat),((b.foldl (lA c) g) x).count s=(g x).count s+if s=c then b.count x else 0:=by induction b with
 |nil=>intro g x s;by_cases e:s=c;refine(ar e).symm▸?_;rfl;refine(au e).symm▸?_;rfl|cons p b z=>intro g x s;refine(z (lA c g p) x s).trans ?_;delta lA;by_cases e:x=p;rw[e,bF,List.count_append,fC];refine aF ((g p).count s+·) ?_;by_cases q:s=c;rw[q,ar rfl,ar rfl,List.count_cons_self,List.count_cons_self,eO];rfl;exact(au q).symm▸(au q).symm▸(lN.mpr λ m=>q (bX.mp m)).symm▸rfl;exact(cH _ _ e).symm▸(List.count_cons_of_ne (Ne.symm e)).symm▸rfl
def FW(c:Nat)(b:aj):∀(g:Nat->aj)(x:Nat),((b.foldl (lA c) g) x).length<=(g x).length+b.length:=by induction b with
 |nil=>exact λ g x=>ah _|cons p b z=>intro g x;refine aa (z (lA c g p) x) (aa (eH (m:=(g x).length+1) ?_ _) (bO (fD _ 1 _)));delta lA;by_cases e:x=p;rw[e,bF,gJ];exact ah _;refine(cH _ _ e).symm▸?_;exact bR _
structure Told(M:Nat->aj)(n:Nat)(keys:aj)(np:Nat->Int)(su:Nat->aj):Prop where
 k:∀k∈keys,k<12
 hn:∀c,np c=((M c).length:Int)
 hs:∀x s,(su x).count s=(M s).count x
 sl:∀x,(su x).length<=n
def Told.next{M M':Nat->aj}{n m:Nat}{keys:aj}{np:Nat->Int}{g:Nat->aj}(h:Told M n keys np g){c:Nat}{P:aj}(w:c<12)(H:∀x∈P,x<12)(hm:P.length<=m)(a:M' c=M c++P)(d:∀s,s≠c->M' s=M s):Told M' (n+m) (P.foldl ins (ins keys c)) (upd np c (np c+P.length)) (P.foldl (lA c) g):=by
 have hi:∀x,x∈ins keys c->x<12:=λ x L=>by unfold ins at L;by_cases m:c∈keys;rw[ar m]at L;exact h.k x L;rw[au m]at L;exact eM L (h.k x) λ e=>e▸w
 refine⟨λ k u=>((AS _ _ _).mp u).elim (hi k) (H k),λ x=> ?_,λ x s=> ?_,λ x=>aa (FW _ _ _ _) (dS (h.sl x) hm)⟩;by_cases e:x=c;rw[e,bF,h.hn c,a,bH];rfl;rw[cH _ _ e,h.hn x,d x e];rw[AU,h.hs x s];by_cases e:s=c;rw[e,ar rfl,a,List.count_append];rw[au e,d s e];rfl
noncomputable def Bb(F:Nat->Nat)(l:aj)(s:Nat):aj:=l.filter λ x=>decide (F x=s)
def mW{F:Nat->Nat}{l:aj}{s x:Nat}:x∈Bb F l s↔x∈l/\F x=s:=kK.trans (and_congr Iff.rfl decide_eq_true_iff)
def PC(l:aj):∀(x:(Nat->Int)×aj)(s:Nat),(l.foldl dq x).1 s=x.1 s-(l.count s:Int):=by induction l with
 |nil=>exact λ x s=>(Int.sub_zero _).symm|cons a l z=>intro x s;refine(z (dq x a) s).trans ?_;refine(?_:upd x.1 a (x.1 a-1) s-(l.count s:Int)=_);by_cases e:s=a;rw[e,bF,List.count_cons_self,Int.sub_sub,Int.add_comm,Int.natCast_add];rfl;rw[cH _ _ e,List.count_cons_of_ne (Ne.symm e)]
def KI.mark{N g:Nat->aj}{keys O G:aj}{o:Nat}{np:Nat->Int}{I:aj}(h:KI N keys O (o::G) np I)(w:∀x s,(g x).count s=if s∈keys then(N s).count x else 0)(hm:∀c∈O,np c= -2):∀c∈o::O,(jC g (np,I) o).1 c= -2:=by
 obtain⟨a,U,L,b⟩:=h.g o (.head _);intro c d;refine(?_:((g o).foldl dq (upd np o (-2),I)).1 c= -2);rw[PC];have M:(g o).count c=0:=by rw[w o c];by_cases u:c∈keys;rw[ar u];refine lN.mpr λ hm=> ?_;rcases aT.mp d with e|f;exact U (b o (e▸hm));exact U (h.od.sub c f o hm);exact au u
 rw[M];refine(?_:upd np o (-2) c-0= -2);rw[Int.sub_zero];by_cases e:c=o;rw[e,bF];rw[cH _ _ e];exact hm c ((aT.mp d).resolve_left e)
def KI.marks{N g:Nat->aj}{keys:aj}(w:∀x s,(g x).count s=if s∈keys then(N s).count x else 0):∀{G O:aj}{np:Nat->Int}{I:aj},KI N keys O G np I->(∀c∈O,np c= -2)->∀c∈G.reverse++O,(G.foldl (jC g) (np,I)).1 c= -2
 |[],_,_,_,_,hm=>hm|o::G,O,np,I,h,hm=>by rw[nu,hZ];exact(h.done w).marks w (h.mark w hm)
section
variable{F:Nat->Nat}(hF:∀i,i<12->F i<12)
include hF
def D6{k:Nat}:∀{x:Nat},x∈hM F (k+1)->x∈hM F k:=by induction k with
 |zero=>exact λ h=>dY.mpr (oB h)|succ k z=>intro x h;obtain⟨p,hp,e⟩:=(jD hF).mp h;exact(jD hF).mpr ⟨p,z hp,e⟩
omit hF in
def Jy(k:Nat):(hM F k).Pairwise (·<·):=by induction k using nC with
 |zero=>exact List.pairwise_lt_range|succ k=>exact AQ λ x=>decide (x∈(hM F k).map F)
omit hF in
def pY{k x:Nat}:x∈qb F k↔x∈hM F k/\x∉hM F (k+1):=by refine kK.trans (and_congr Iff.rfl ?_);rw[Bool.not_eq_true',decide_eq_false_iff_not]
def Sm(F:Nat->Nat)(O:aj)(k:Nat):Prop:=∀c,c<12->(c∈O↔c∉hM F k)
noncomputable abbrev AV(F:Nat->Nat):Nat->aj:=Bb F (List.range 12)
def FX{keys O:aj}{np:Nat->Int}{N:aj}{k:Nat}(h:KI (AV F) keys O [] np N)(u:∀c,c∈keys↔c<12)(I:Sm F O k)(c:Nat):c∈N↔c∈qb F k:=by rw[h.rm c,pY,u c,ja];refine⟨λ⟨a,b,_,d⟩=> ?_,λ⟨a,b⟩=> ?_⟩;refine⟨sY λ T=>b ((I c a).mpr T),λ hm=> ?_⟩;obtain⟨p,hp,e⟩:=(jD hF).mp hm;have A:=oB hp;exact(I p A).mp (d p (mW.mpr ⟨dY.mpr A,e⟩)) hp;have C:=oB a;refine⟨C,λ f=>(I c C).mp f a,mn,λ n T=> ?_⟩;obtain⟨n1,n2⟩:=mW.mp T;exact(I n (dY.mp n1)).mpr λ H=>b ((jD hF).mpr ⟨n,H,n2⟩)
def Sm.next{O N:aj}{k:Nat}(I:Sm F O k)(l:∀c,c∈N↔c∈qb F k):Sm F (N.reverse++O) (k+1):=λ c w=>by rw[bK,qe,l c,pY,I c w];refine⟨λ h=>h.elim (·.2) λ h m=>h (D6 hF m),λ h=> ?_⟩;by_cases m:c∈hM F k;exact .inl ⟨m,h⟩;exact .inr m
omit hF in
def CL{N:aj}{k:Nat}(p:N.Nodup)(l:∀c,c∈N↔c∈qb F k):(sortI (N.map λ k:Nat=>(k:Int))).map V.int=nums (qb F k):=D5 ((Jy k).filter _) (u0 p) λ i=>by rw[bV,bV];exact⟨λ⟨a,C,e⟩=>⟨a,(l a).mp C,e⟩,λ⟨a,C,e⟩=>⟨a,(l a).mpr C,e⟩⟩
def Jz{m:Nat}(h:qb F m=[])(j:Nat):∀x∈hM F (m+j),x∈hM F (m+j+1):=by induction j with
 |zero=>intro x L;refine sY λ T=> ?_;have:x∈qb F m:=pY.mpr ⟨L,T⟩;rw[h]at this;exact absurd this ck|succ j z=>intro x L;obtain⟨p,hp,e⟩:=(jD hF).mp L;exact(jD hF).mpr ⟨p,z p hp,e⟩
def JA{m:Nat}(h:qb F m=[])(j:Nat):qb F (m+j)=[]:=List.eq_nil_iff_forall_not_mem.mpr λ x L=>(pY.mp L).2 (Jz hF h j x (pY.mp L).1)
def CM{k:Nat}(Q:qb F k=[])(u:k<=12)(n:∀i,i<k->qb F i≠[]):(List.range k).map (qb F)=AR F:=by
 obtain⟨j,t⟩:=Nat.exists_eq_add_of_le u;delta AR;rw[t,List.range_add,eG,jH];have a:((List.range k).map (qb F)).filter (λ g=>decide (g≠[]))=(List.range k).map (qb F):=List.filter_eq_self.mpr λ g U=>by obtain⟨i,hi,e⟩:=bV.mp U;exact af (e▸n i (dY.mp hi))
 have d:(((List.range j).map (k+·)).map (qb F)).filter (λ g=>decide (g≠[]))=[]:=List.filter_eq_nil_iff.mpr λ g U=>by rw[fo]at U;obtain⟨i,hi,e⟩:=bV.mp U;have e:qb F (k+i)=g:=e;rw[JA hF Q i]at e;exact e▸λ h=>ae h rfl
 rw[a,d,dw]
def JB{keys:aj}{g:Nat->aj}(u:∀c,c∈keys↔c<12)(w:∀x s,(g x).count s=if s∈keys then(AV F s).count x else 0):¬Pj keys g:=λ⟨r,b1,b2,I⟩=>yI (U:=keys) (λ c d=>⟨F c,(u _).mpr (hF c ((u c).mp d)),nL.mp (by
  refine(w c (F c)).symm▸(ar ((u _).mpr (hF c ((u c).mp d)))).symm▸?_
  exact nL.mpr (mW.mpr ⟨dY.mpr ((u c).mp d),rfl⟩))⟩) b1 0 (I 0 ((u 0).mpr dD)) ((u 0).mpr dD)
end
def pZ{O:aj}(h:O.Nodup)(u:∀c∈O,c<12):O.length<=12:=by have:=h.length_le_of_subset (l₂:=List.range 12) λ c w=>dY.mpr (u c w);rwa[eB]at this
def JC{r:List MS}{Q:Fl->aw->Mem->Prop}{c:Nat}(hf:B.getD 3 .aC= .int (c:Int))(w:c<12)(h:Q (.exc 0) B Y):wSs J pg d (.lW 33 0 [.tA 3]::r) Q B Y:=by refine et ⟨⟨_,rfl⟩,?_⟩;refine(?_:isInt (B.getD 3 .aC) _);exact hf▸⟨kB (fz w dD),λ l=>⟨rfl,h⟩⟩
def CN(H:Hd J){Z:Nat->Mem->Prop}{X:Nat->Prop}{S a R c:Nat}{keys l:aj}{A b:Nat->Nat}{np:Nat->Int}{g:Nat->aj}{po nf:Int}(q:bl X Y S a keys A b np g (some (R,l)) po nf)(p:c∈keys)(T:c<12)(n:np c= -2\/0<=np c)(L:Z 0 Y):rb J (d+1) (.glob aV) [.ref S,.int (c:Int)] Q Z Y:=by
 apply gZ H _ [.int (c:Int)] rfl;refine yG q rfl (ei ?_);refine bW (v:= .ref a) (gQ aB q.s rfl rfl vn) ?_;refine et (Cu (v:= .tuple [.int (c:Int)]) aB ⟨trivial,?_⟩);obtain⟨ep,s⟩:=q.d;have t:Ev J d (.a9 (.var 2) 4 [.var 3]) [.ref S,.tuple [.int (c:Int)],.ref a,.int (c:Int),.aC,.aC,.aC,.aC] Y (.ref (A c)):=λ K k=>i8 (v:= .ref a) aB (Jf s) (w:= .int (c:Int)) aB (c8 (J:=J) (d:=d) rfl (Je s) (by rw[i9,ar p];exact k));refine et (t _ ?_);refine bW (B:=[.ref S,.tuple [.int (c:Int)],.ref a,.int (c:Int),.ref (A c),.aC,.aC,.aC]) (v:= .int (np c)) (rK (i:=A c) aB (q.n c p) rfl vn) ?_;have ne1:(np c== -1)=false:=iN λ e=>by rw[e]at n;exact n.elim dD dD
 refine ot true (Ev.cmp (va:= .int (np c)) (vb:= .int (-1)) aB aB (aF some (aF (!·) ne1))) (λ D=> ?_) nt;refine ot (decide ((0:Int)<=np c)) (Ev.cmp (va:= .int (np c)) (vb:= .int 0) aB aB rfl) (λ D=>JC (c:=c) rfl T L) (λ e=> ?_);have N:np c= -2:=n.resolve_right (of_decide_eq_false e);exact ot true (Ev.cmp (va:= .int (np c)) (vb:= .int (-2)) aB aB (by refine N.symm▸?_;rfl)) (λ D=>JC (c:=c) rfl T L) nt
def Mj{i:Nat}{e:ME}{r:List MS}{Q:Fl->aw->Mem->Prop}(h:wE J pg d e (λ v Y=>wSs J pg d r Q (B.set i v) Y) B Y):wSs J pg d (.assign [.var i] e::r) Q B Y:=h
def PD{o e a:ME}{m fa:Nat}{K:fA}{i C:Nat}{as:List (Nat×V)}{v:V}{vs:aw}(w:Ev J d o B Y (.ref i))(hi:Y.f i= .inst C as)(I:pg.insts.contains C=true)(hm:pg.a9 C m=some fa)(H:e.isStar=false)(he:Ev J d e B Y v)(z:Ev J d a B Y (.list vs))(u:vs.length<=100000)(h:fM J d (.glob fa) (.ref i::v::vs) [] [] K Y):wE J pg d (.nE o m [e,.star a]) K B Y:=w _ (by
 refine(?_:(match Y.f i with| .inst C _=>_|_=>False))
 refine hi.symm▸?_
 refine⟨I,cz hm ?_⟩
 have key:cF J d [e,.star a] B Y (v::vs):=cF.cons H he λ K k=>by
  refine(?_:wE J pg d a _ B Y)
  refine Cu z (cz (ar (af u)) ?_)
  refine(?_:K (vs++[]) Y)
  rw[dw]
  exact k
 exact key _ h)
noncomputable abbrev JD(F:Nat->Nat)(S v2 c w j t L:V):aw:=[.list (nums ((List.range 12).map F)),S,v2,c,w,j,t,L]
noncomputable abbrev D7:aj:=[6,7,8,9,10,11]
noncomputable def se(F:Nat->Nat)(j s:Nat):aj:=Bb F (List.range 6) s++if s<j then Bb F D7 s else[]
inductive A1(F:Nat->Nat)(bZ:Mem)(M:Nat->Nat->aj)(n b:Nat)(rest:aj)(B:aw)(σ':Mem):Prop
 |mk (j m:Nat) (keys:aj) (A a:Nat->Nat) (np:Nat->Int) (su:Nat->aj) (v2 v3:V) (hr:B=JD F (.ref bZ.n) v2 v3 .aC .aC .aC .aC) (he:rest=List.range' j m) (hj:j+m=n) (at_:bl (λ i=>bZ.n<=i) σ' bZ.n (bZ.n+1) keys A a np su none 0 0) (ex:Ext bZ σ') (t:Told (M j) (b+6*j) keys np su) (hk:12<=n->∀c,c<j->c∈keys):A1 F bZ M n b rest B σ'
def yO{H Y σ':Mem}(ex:Ext H Y)(f:qP (λ i=>H.n<=i) Y σ'):Ext H σ':=⟨aa ex.1 f.1,λ i hi=>(f.2 i (ai hi ex.1) (fB.mpr hi)).trans (ex.2 i hi)⟩
def AW{F:Nat->Nat}{l:aj}{x s:Nat}:Bb F (l++[x]) s=Bb F l s++if F x=s then[x]else[]:=by unfold Bb;rw[jH,gS];refine aF (Bb F l s++·) ?_;by_cases e:F x=s;rw[ar (af e),ar e];rfl;rw[au λ h=>e (ae h),au e];rfl
noncomputable def So:List MS:=[.ir [2] (.range 17 [.lit (.int 6)]) [.expr (.a9 (.var 1) 5 [.sub (.var 0) (.var 2),.var 2])],.ir [3] (.range 17 [.lit (.int 12)]) [.expr (.nE (.var 1) 5 [.var 3,.star (.comp false (.var 2) [2] (.range 17 [.lit (.int 6),.lit (.int 12)]) [.cmp .Eq (.sub (.var 0) (.var 2)) (.var 3)])])]]
def Sp(H:Hd J){F:Nat->Nat}(hF:∀i,i<12->F i<12){z o:Mem}{r:List MS}{Q:Fl->aw->Mem->Prop}(PE:bl (λ i=>z.n<=i) o z.n (z.n+1) [] (λ D=>0) (λ D=>0) (λ D=>0) (λ D=>[]) none 0 0)(DX:Ext z o)(h:∀σ' keys A b np w v2 N,bl (λ i=>z.n<=i) σ' z.n (z.n+1) keys A b np w none 0 0->Ext z σ'->Told (se F 12) 200 keys np w->(∀c,c∈keys↔c<12)->wSs J pg (d+4) r Q (JD F (.ref z.n) v2 N .aC .aC .aC .aC) σ'):wSs J pg (d+4) (So++r) Q (JD F (.ref z.n) .aC .aC .aC .aC .aC .aC) o:=by
 have lim:∀{np:Nat->Int}{w:Nat->aj}{M:Nat->aj}{keys P:aj}{σ':Mem}{A b:Nat->Nat}{n:Nat},Told M n keys np w->n<=200->bl (λ i=>z.n<=i) σ' z.n (z.n+1) keys A b np w none 0 0->P.length<=6->keys.length+P.length+1<1000/\∀x,(w x).length+P.length<=1000:=λ{np w M keys P σ' A b n} t hn at' E=>⟨bt (gK (dS (pZ at'.nd t.k) E)) dD,λ x=>aa (dS (aa (t.sl x) hn) E) dD⟩;refine pD (λ k:Nat=>V.int (k:Int)) (vi:= .it false (nums (List.range 6))) (l:=List.range 6) (g:=λ D=>True) (Ev.range (n:=6) rfl aB dD) rfl (A1 F z (λ j=>Bb F (List.range j)) 6 0) ⟨0,6,[],_,_,_,_,_,_,rfl,rfl,rfl,PE,DX,⟨mN,λ D=>rfl,λ D D=>rfl,λ D=>cI _⟩,λ h=>absurd h dD⟩ (λ D D D D=>trivial) ?_ ?_
 ·rintro a rest B σ' K ⟨j,m,keys,A,b,np,w,v2,N,rfl,he,q,at',U,y,D⟩ kk;induction m using nC with
  |zero=>exact PR he|succ m=>obtain⟨rfl,rfl⟩:=jF he;have f:a<6:=ai (qU (ji m)) (bO q);have G:a<12:=fz f dD;refine et (my (v:= .ref z.n) aB (pQ at'.s dD rfl) (lE (vs:=[.int (F a:Nat),.int (a:Int)]) (cF.cons rfl (Ev.sub (va:= .list (nums ((List.range 12).map F))) (vb:= .int (a:Int)) aB aB (kF G dD)) (cF.one rfl λ K k=>k)) ?_));obtain⟨l1,l2⟩:=lim (P:=[a]) y (aa (bO (dy _)) (aa (iH 6 (bo f)) dD)) at' (by exact(by decide:1<=6));refine Jh (d:=d) H at' (F a) [a] (λ i hi=>aa U.1 hi) l1 l2 λ p A' I u T=> ?_;have t2:=y.next (M':=Bb F (List.range (a+1))) (m:=6) (c:=F a) (P:=[a]) (hF a G) (λ x L=>bX.mp L▸G) (by exact(by decide:1<=6)) (by rw[List.range_succ,AW,ar rfl]) (λ s hs=>by rw[List.range_succ,AW,au (Ne.symm hs),dw]);exact(kk _ _ ⟨a+1,m,_,A',I,_,_,_,N,rfl,rfl,(fD a 1 m).trans q,u,yO U T,t2,λ h=>absurd h dD⟩).1
 rintro B σ' ⟨j,m,keys,A,b,np,w,v2,N,rfl,he,q,at',U,y,D⟩;have hm:m=0:=by induction m using nC with
  |zero=>rfl|succ m=>exact PQ he
 subst hm;have q:j=6:=q;subst q;have t0:Told (se F 0) 36 keys np w:=⟨y.k,λ c=>(y.hn c).trans (by unfold se;rw[au (jW c),dw]),λ x s=>(y.hs x s).trans (by unfold se;rw[au (jW s),dw]),y.sl⟩;refine pD (λ k:Nat=>V.int (k:Int)) (vi:= .it false (nums (List.range 12))) (l:=List.range 12) (g:=λ D=>True) (Ev.range (n:=12) rfl aB dD) rfl (A1 F z (se F) 12 36) ⟨0,12,keys,_,_,_,_,_,_,rfl,rfl,rfl,at',U,t0,λ D c hc=>absurd hc (jW c)⟩ (λ D D D D=>trivial) ?_ ?_
 ·rintro a rest B p K ⟨j,m,keys,A,b,np,w,v2,N,rfl,he,q,at',U,y,hk⟩ kk;induction m using nC with
  |zero=>exact PR he|succ m=>
  obtain⟨rfl,rfl⟩:=jF he;have f:a<12:=ai (qU (ji m)) (bO q);have E:(Bb F D7 a).length<=6:=qf (λ x=>decide (F x=a)) D7;have Cc:∀x∈Bb F D7 a,x<12:=λ x L=>(by decide:∀x∈D7,x<12) x (mW.mp L).1;have Sq:Ev J (d+4) (.comp false (.var 2) [2] (.range 17 [.lit (.int 6),.lit (.int 12)]) [.cmp .Eq (.sub (.var 0) (.var 2)) (.var 3)]) (JD F (.ref z.n) v2 (.int (a:Int)) .aC .aC .aC .aC) p (.list (nums (Bb F D7 a))):=by have hr:Ev J (d+4) (.range 17 [.lit (.int 6),.lit (.int 12)]) (JD F (.ref z.n) v2 (.int (a:Int)) .aC .aC .aC .aC) p (.it false (nums D7)):=λ K k=>k;refine Ev.PB (λ k:Nat=>V.int (k:Int)) (vi:= .it false (nums D7)) (l:=D7) (g:=λ D=>True) hr rfl trivial (λ x=>decide (F x=a)) (by exact(by decide:2<8)) (λ x L=> ?_) (λ D=>vn) dD;refine Ev.cmp (va:= .int (F x:Nat)) (vb:= .int (a:Int)) (Ev.sub (va:= .list (nums ((List.range 12).map F))) (vb:= .int (x:Int)) aB aB (kF ((by decide:∀x∈D7,x<12) x L) dD)) aB (aF some ?_);refine(?_:((F x:Int)==(a:Int))=decide (F x=a));by_cases e:F x=a;rw[e,eq_int,af rfl];rw[ne_int e,cJ e]
  refine et (PD (i:=z.n) (C:=260) (v:= .int (a:Int)) aB at'.s rfl (fa:=bx) rfl rfl aB Sq (by rw[bh];exact aa E dD) ?_);obtain⟨l1,l2⟩:=lim (P:=Bb F D7 a) y (aa (mY (iH 6 (bo f)) 36) dD) at' E;refine Jh (d:=d) H at' a (Bb F D7 a) (λ i hi=>aa U.1 hi) l1 l2 λ kG A' I u T=> ?_;have t2:=y.next (M':=se F (a+1)) (m:=6) (c:=a) (P:=Bb F D7 a) f Cc E (by unfold se;rw[ar (bz a),au (iI a),dw]) (λ s hs=>by
   unfold se
   by_cases e:s<a
   ·rw[ar e,ar (fF e)]
   ·rw[au e,au λ h=>e (oG (iG h) hs)])
  refine(kk _ _ ⟨a+1,m,_,A',I,_,_,v2,_,rfl,rfl,(fD a 1 m).trans q,u,yO U T,t2,λ h c hc=>(AS _ _ _).mpr (.inl ?_)⟩).1;rcases lF (iG hc)with h1|h1;exact DQ (hk h c h1);exact h1▸mU keys a
 rintro B p ⟨j,m,keys,A,b,np,w,v2,N,rfl,he,q,at',U,y,hk⟩;have hm:m=0:=by induction m using nC with
  |zero=>rfl|succ m=>exact PQ he
 subst hm;have q:j=12:=q;subst q;exact h p keys A b np w v2 N at' U ⟨y.k,y.hn,y.hs,λ x=>aa (y.sl x) dD⟩ λ c=>⟨y.k c,hk (ah 12) c⟩
def D8{F:Nat->Nat}{s:Nat}(H:s<12):se F 12 s=AV F s:=by unfold se;rw[ar H];exact(jH (p:=λ x=>decide (F x=s)) (List.range 6) D7).symm
def JF{F:Nat->Nat}(hF:∀i,i<12->F i<12){s:Nat}(H:¬s<12):se F 12 s=[]:=by unfold se;rw[au H,dw];exact List.eq_nil_iff_forall_not_mem.mpr λ x L=>H ((mW.mp L).2▸hF x (fz (dY.mp (mW.mp L).1) dD))
def JG{l:aj}(I:l.length<=12):d8 Y (.bi .sorted) [.tuple (nums l)]=some (.list ((sortI (l.map λ k:Nat=>(k:Int))).map .int),Y):=by refine(?_:(match intsOf (nums l)with|some is=>if decide (is.length<60)then some (V.list ((sortI is).map .int),Y)else none|none=>none)=_);rw[mz];exact ar (af (by rw[a7];exact bt I dD))
noncomputable abbrev Qb(F:Nat->Nat)(k:Nat):aw:=(List.range k).map λ i=> .list (nums (qb F i))
inductive WI(F:Nat->Nat)(bZ:Mem)(g S D R:Nat)(keys:aj)(A a:Nat->Nat)(su:Nat->aj)(v2 v3:V)(n:Nat)(B:aw)(σ':Mem):Prop
 |mk (O rd:aj) (np:Nat->Int) (pf:Int) (k:Nat) (v6:V) (hr:B=JD F (.ref S) v2 v3 (.bool true) (.ref g) v6 .aC) (at_:bl (λ i=>bZ.n<=i/\i<g) σ' S D keys A a np su (some (R,rd)) pf pf) (hg:σ'.f g= .list (Qb F k)) (gn:g<σ'.n) (ex:Ext bZ σ') (ki:KI (AV F) keys O [] np rd) (lv:Sm F O k) (mk:∀c∈O,np c= -2) (hn:n+O.length=12) (hk:k<=O.length) (jL:∀i,i<k->qb F i≠[]):WI F bZ g S D R keys A a su v2 v3 n B σ'
noncomputable def PG:List MS:=[.assign [.var 6] (.a9 (.var 1) 17 []),.expr (.nE (.var 1) 19 [.star (.var 6)]),.expr (.a9 (.var 5) 0 [.call (.bT 37) [.var 6] [] []])]
def Mk(H:Hd J){F:Nat->Nat}(hF:∀i,i<12->F i<12){z Y:Mem}{g S j R:Nat}{keys N:aj}{A l:Nat->Nat}{T:Nat->aj}{np:Nat->Int}{v2 U:V}{r:List MS}{Q:Fl->aw->Mem->Prop}(u:∀c,c∈keys↔c<12)(DT:∀x s,(T x).count s=if s∈keys then(AV F s).count x else 0)(sl:∀x,(T x).length<=200)(g0:z.n<=g)(YZ:bl (λ i=>z.n<=i/\i<g) Y S j keys A l np T (some (R,N)) 0 0)(hg:Y.f g= .list [])(gn:g<Y.n)(ex:Ext z Y)(VM:KI (AV F) keys [] [] np N)(h:∀σ' np I v6,bl (λ i=>z.n<=i/\i<g) σ' S j keys A l np T (some (R,[])) I I->σ'.f g= .list ((AR F).map λ g=> .list (nums g))->g<σ'.n->Ext z σ'->(∀c∈keys,np c= -2\/0<=np c)->wSs J pg (d+4) r Q (JD F (.ref S) v2 U (.bool true) (.ref g) v6 .aC) σ'):wSs J pg (d+4) (.gq (.a9 (.var 1) 18 []) PG []::r) Q (JD F (.ref S) v2 U (.bool true) (.ref g) .aC .aC) Y:=by
 have VN:∀x,∀s∈T x,s∈keys:=λ x s hs=>by have M:=nL.mpr hs;rw[DT x s]at M;by_cases u:s∈keys;exact u;rw[au u]at M;exact absurd M (iI 0)
 have fx:∀{Qa Xy:Mem},Ext z Qa->qP (λ i=>z.n<=i/\i<g) Qa Xy->Ext z Xy:=λ ex f=>⟨aa ex.1 f.1,λ i hi=>(f.2 i (ai hi ex.1) λ q=>fB.mpr hi q.1).trans (ex.2 i hi)⟩;apply yl (WI F z g S j R keys A l T v2 U) 12 ⟨[],N,np,0,0,.aC,rfl,YZ,hg,gn,ex,VM,λ c p=>⟨mn,λ hn=>absurd (dY.mpr p) hn⟩,mN,rfl,ah _,λ i hi=>absurd hi (jW i)⟩;rintro n B aX ⟨O,N,np,I,k,v6,rfl,G,RR,Tu,DX,o,lv,mk,hn,VO,jL⟩;have VP:∀c∈N,c∈keys:=λ c p=>((o.rm c).mp p).1;have L:N.length<=12:=pZ o.rn λ c p=>(u c).mp (VP c p);have gm:=FX hF o u lv;have Ol:O.length<=12:=pZ o.nd λ c p=>(u c).mp (o.ok c p);have VQ:Ev J (d+4) (.a9 (.var 1) 18 []) (JD F (.ref S) v2 U (.bool true) (.ref g) v6 .aC) aX (.bool (!N.isEmpty)):=λ K k=>by refine my (v:= .ref S) aB (pQ G.s dD rfl) ?_;apply pS (d:=d+3) H G (aa L dD);exact cJ (Int.lt_irrefl _)▸k
 refine⟨.bool (!N.isEmpty),_,VQ,rfl,λ e K k1 D=> ?_,λ e=> ?_⟩;have y:N≠[]:=λ e'=>by rw[e']at e;exact nf e
 refine et (my (v:= .ref S) aB (pQ G.s dD rfl) ?_);refine yH (d:=d+3) H G (aa L dD) VP λ aU at2 f2 n2=> ?_;refine(?_:wSs J pg (d+4) _ K (JD F (.ref S) v2 U (.bool true) (.ref g) (.tuple (nums N)) .aC) aU);have Xz:=o.out;obtain⟨E,Y0⟩:=Xz.round DT;have Y1:∀c∈O,pR np N (-1) c= -2:=λ c p=>(uT.2 λ hr=>((o.rm c).mp hr).2.1 p).trans (mk c p);have mX:=Xz.marks DT Y1;refine et (Po (i:=S) (C:=260) (vs:=nums N) aB at2.s rfl (fa:=aV) rfl aB (by rw[bh];exact aa L dD) ?_);refine Mb (d:=d+3) H at2 VP (λ x D=>VN x) (λ x=>aa (sl x) dD) (cI _) (aa L dD) Y0 λ w3 VR f4 n4=> ?_;have nX:¬(z.n<=g/\g<g):=λ q=>iI _ q.2;have Y2:w3.f g= .list (Qb F k):=(f4.2 g (by exact n2▸Tu) nX).trans ((f2.2 g Tu nX).trans RR);have kl:k<12:=by have:=List.length_pos_iff.mpr y;have Tv:=pZ E.nd λ c p=>(u c).mp (E.ok c p);rw[bH,nK]at Tv;exact ai (bt VO (Nat.lt_add_of_pos_left this)) Tv
 refine dJ (a:=g) (v:= .list (nums (qb F k))) aB Y2 (by rw[a7,eB];exact aa (bo kl) dD) (cF.one rfl (pE (b:= .bi .sorted) (w:= .tuple (nums N)) aB rfl (cF.one rfl λ K k=>k) ((JG L).trans (by rw[CL o.rn gm])))) ?_;have Tv:=pZ E.nd λ c p=>(u c).mp (E.ok c p);have lO:(N.reverse++O).length=N.length+O.length:=by rw[bH,nK]
 have Ei:12-(N.reverse++O).length+(N.reverse++O).length=12:=Nat.sub_add_cancel Tv;have XA:=List.length_pos_iff.mpr y;have VS:bl (λ i=>z.n<=i/\i<g) (w3.set g (.list (Qb F k++[.list (nums (qb F k))]))) S j keys A l _ T _ _ _:=VR.keep (ah _) λ i D t=>Mem.fT _ _ (az t.2);have Qc:g<w3.n:=by rw[n4,n2];exact Tu
 refine(k1 (12-(N.reverse++O).length) _ _ ?_ ⟨N.reverse++O,_,_,I+N.length,k+1,_,rfl,VS,?_,Qc,((fx (fx DX f2) f4).set g0 _),E,lv.next hF gm,mX,Ei,?_,?_⟩).1;apply Nat.lt_of_add_lt_add_right (n:=O.length);rw[hn];refine ai (lJ (m:=(N.reverse++O).length) ?_ _) (bO Ei);exact lO▸Nat.lt_add_of_pos_left XA;rw[Mem.aR,show Qb F (k+1)=Qb F k++[.list (nums (qb F k))] by unfold Qb;rw[List.range_succ,eG];rfl];rw[lO,eO];exact dS XA VO;intro i hi;rcases lF (iG hi)with M|M;exact jL i M;subst M;obtain⟨x,t⟩:=List.exists_mem_of_ne_nil N y;intro e0;have:=(gm x).mp t;rw[e0]at this;exact absurd this ck;have y:N=[]:=by cases N with|nil=>rfl|cons _ _=>cases e
 subst y;have Y3:qb F k=[]:=List.eq_nil_iff_forall_not_mem.mpr λ x t=>absurd ((gm x).mpr t) ck;have N6:=CM hF Y3 (aa VO Ol) jL;refine ei (h aX np I v6 G ?_ Tu DX λ c p=> ?_);rw[RR,<-N6,fo];rfl;by_cases hO:c∈O;exact .inl (mk c hO);exact .inr ((o.np c p hO mn)▸dN _)
noncomputable abbrev sS(F:Nat->Nat):V:= .tuple [.bool true,.list ((AR F).map λ g=> .list (nums g)),.list [],.bool false]
inductive XB(F:Nat->Nat)(bZ:Mem)(g h S D R:Nat)(keys:aj)(A a:Nat->Nat)(np:Nat->Int)(su:Nat->aj)(pf:Int)(v3 v6:V)(rest:aj)(B:aw)(σ':Mem):Prop
 |mk (v2:V) (hr:B=JD F (.ref S) v2 v3 (.bool true) (.ref g) v6 (.ref h)) (at_:bl (λ i=>bZ.n<=i/\i<g) σ' S D keys A a np su (some (R,[])) pf pf) (hg:σ'.f g= .list ((AR F).map λ g=> .list (nums g))) (hh:σ'.f h= .list []) (lt:g<h/\h<σ'.n) (ex:Ext bZ σ') (hc:∀c∈rest,c<12):XB F bZ g h S D R keys A a np su pf v3 v6 rest B σ'
def vT(H:Hd J){C:Mem}{F:Nat->Nat}(hF:∀i,i<12->F i<12)(h:∀σ',Ext C σ'->Q (sS F) σ'):aJ J (d+5) (.glob jT) [.list (nums ((List.range 12).map F))] [] [] Q C:=by
 apply qI H _;refine Mj (fh (d:=d+3) (a:=260) aB ?_);refine vO (d:=d+2) H λ aX Su n₁ Sv=> ?_;refine Sp H hF Sv Su λ aU keys A b np T v2 v3 at2 G t u=> ?_;have M:∀x s,(T x).count s=if s∈keys then(AV F s).count x else 0:=λ x s=>by refine(t.hs x s).symm▸?_;by_cases z:s<12;exact(ar ((u s).mpr z)).symm▸(D8 z).symm▸rfl;refine(au λ m=>z ((u s).mp m)).symm▸(JF hF z).symm▸?_;rfl
 have VN:∀c∈keys,∀s∈T c,s∈keys:=λ x D s z=>by have N:=nL.mpr z;rw[M x s]at N;by_cases u:s∈keys;exact u;rw[au u]at N;exact absurd N (iI 0)
 have VM:KI (AV F) keys [] [] np (g9 keys np):=KI.init at2.nd λ c p=>(t.hn c).trans (by exact(D8 ((u c).mp p)).symm▸rfl);refine bW (v:= .bool false) aB ?_;refine et ⟨⟨rfl,⟨_,rfl⟩⟩,?_⟩;apply et;apply cz (pQ at2.s dD rfl);refine CG (d:=d+2) H at2 VN (λ i hi=>aa G.1 hi) (λ σ' R h f ac=>absurd ac (JB hF u M)) λ w R Y4 f3=>⟨rfl,?_⟩;have o:=yO G f3;refine r8 (v:= .ref w.n) (σ':=w.alloc (.list [])) aB ?_;have VR:=Y4.YN.keep (σ':=w.alloc (.list [])) (bR _) λ i hi D=>Mem.cA _ _ (az hi);refine Mk H hF u M t.sl o.1 VR (Mem.aY _ _) (bz _) (o.jV _) VM λ I kH pf v6 VS Y5 q Y6 Y7=> ?_;have ng:w.n≠I.n:=az q;refine r8 (v:= .ref I.n) (σ':=I.alloc (.list [])) aB ?_;have Y8:=VS.keep (σ':=I.alloc (.list [])) (bR _) λ i hi D=>Mem.cA _ _ (az hi);refine pD (λ k:Nat=>V.int (k:Int)) (vi:= .it false (nums (List.range 12))) (l:=List.range 12) (g:=λ D=>True) (Ev.range (n:=12) rfl aB dD) rfl (XB F C w.n I.n C.n (C.n+1) R keys A b kH T pf v3 v6) ⟨_,rfl,Y8,i7 Y5 ng,Mem.aY _ _,⟨q,bz _⟩,Y6.jV _,λ c p=>dY.mp p⟩ (λ D D D D=>trivial) ?_ ?_;rintro c rest B e K ⟨v2,rfl,U,y,E,XC,j,p⟩ kk;have r:=p c (.head _);refine et ⟨⟨_,rfl⟩,?_⟩;apply et;apply cz (pQ U.s dD rfl);exact CN (d:=d+3) H U ((u c).mpr r) r (Y7 c ((u c).mpr r)) ⟨rfl,(kk _ _ ⟨_,rfl,U,y,E,XC,j,λ x L=>p x (.tail _ L)⟩).1⟩;rintro B e ⟨v2,rfl,U,y,E,XC,j,p⟩;apply DL;have Y9:I.n≠w.n:=Ne.symm ng;have N6:=o.1;refine(?_:opt (e.f w.n).eI _);rw[y];refine(?_:opt ((e.set w.n .dead).f I.n).eI _);rw[aZ Y9 E];have Za:C.n<=I.n:=bo (bt N6 q);have XD:=(U.keep (σ':=e.set w.n .dead) (ah _) λ i D L=>Mem.fT _ _ (az L.2)).keep (σ':=(e.set w.n .dead).set I.n .dead) (ah _) λ i D L=>Mem.fT _ _ (az (fz L.2 q));refine my (v:= .ref C.n) aB (pQ XD.s dD rfl) ?_;apply pS (d:=d+3) H XD (cI _);exact cJ (Int.lt_irrefl _)▸h _ ((j.set N6 _).set Za _)
noncomputable abbrev lb(r:aj):aj:=65::34::32::r
def JH(n k:Nat)(x:aj):Prop:=(∃i,i<n/\x.length=k+3+i)\/x.length=k+1\/x.length=k
def JH.up{n k:Nat}{x:aj}(h:JH n k x):JH (n+1) k x:=h.imp (λ⟨i,M,N⟩=>⟨i,fF M,N⟩) id
def JH.stop(pre r:aj):JH (pre.length+1) r.length (pre++lb r):= .inl ⟨pre.length,bz _,bH.trans (eO _ _)⟩
def AY{p:Nat->Bool}(hp:p=isQ\/p=mT)(n:Nat)(r:aj)(e:Bool)(acc:aj):JH n r.length (dW p (lb r) e acc).2:=by
 have M:dW p (lb r) e acc=dW p (34::32::r) false (acc++[65]):=by induction e with
  |true=>rfl|false=>exact fX (hp.elim (·▸rfl) (·▸rfl)) dD
 refine M.symm▸?_;rcases hp with rfl|rfl;rw[dQ (by rfl)];exact .inr (.inl rfl);rw[fX (by rfl) dD,dQ (by rfl)];exact .inr (.inr rfl)
def AZ{p:Nat->Bool}(hp:p=isQ\/p=mT)(r pre:aj):∀(e:Bool)(acc:aj),JH pre.length r.length (dW p (pre++lb r) e acc).2:=by induction pre with
 |nil=>exact λ e acc=>AY hp 0 r e acc|cons c pre z=>intro e acc;induction e with
  |true=>exact(z false (acc++[c])).up|false=>by_cases h:p c=true;refine(dQ h).symm▸?_;exact .stop pre r;have h:=kM.mpr h;by_cases N:c=92;rw[N]at h⊢;refine(fY h).symm▸?_;exact(z true acc).up;refine(fX h N).symm▸?_;exact(z false _).up
def JI(r pre:aj):JH pre.length r.length (cG (pre++lb r)).2:=by induction pre with
 |nil=>exact AY (.inr rfl) 0 r false []|cons c pre z=>by_cases h:mT c=true;refine(pV h).symm▸?_;exact z.up;have h:=kM.mpr h;by_cases N:c=34;subst N;exact(AZ (.inl rfl) r pre false []).up;refine(pU h N).symm▸?_;exact AZ (.inr rfl) r (c::pre) false []
def JJ{T pre r:aj}{j n k:Nat}(h:T.drop j=pre++lb r)(p:pre.length=n)(u:r.length=k):JH n k (cG (T.drop j)).2:=by subst p u;refine h.symm▸?_;exact JI r pre
def eV(T:aj):Prop:=∃a z,a.length=8/\T=a++lb (z::(a++lb [z]))
def eV.len{T:aj}(h:eV T):T.length=24:=by obtain⟨a,z,C,rfl⟩:=h;refine bH.symm▸C.symm▸?_;refine(?_:8+((a++lb [z]).length+4)=24);rw[bH,C];rfl
def eV.half{T:aj}(h:eV T):∃t:aj,T=t++t/\t.length=12:=by obtain⟨a,z,C,rfl⟩:=h;exact⟨a++lb [z],(hZ a (lb [z]) _).symm,by refine bH.symm▸C.symm▸?_;rfl⟩
def eV.lo{T:aj}(h:eV T){p:Nat}(hp:p<=8):JH (8-p) 13 (cG (T.drop p)).2:=by obtain⟨a,z,C,rfl⟩:=h;exact JJ (pre:=a.drop p) (r:=z::(a++lb [z])) (List.drop_append_of_le_length (by refine C.symm▸?_;exact hp)) (by exact fk.symm▸C.symm▸rfl) (by refine(?_:(a++lb [z]).length+1=13);rw[bH,C];rfl)
def eV.hi{T:aj}(h:eV T){i:Nat}(hi:i<=12):JH (12-i) 1 (cG (T.drop (8+i))).2:=by obtain⟨a,z,C,rfl⟩:=h;have I:(65::34::32::z::a).length=12:=aF (·+4) C;refine JJ (pre:=(65::34::32::z::a).drop i) (r:=[z]) ?_ (by exact fk.symm▸I.symm▸rfl) rfl;refine C▸jG▸List.drop_left.symm▸?_;exact List.drop_append_of_le_length (l₁:=65::34::32::z::a) (by refine I.symm▸?_;exact hi)
def eV.Sy{T:aj}(h:eV T){p:Nat}(hp:p<=8):(p<cL T p/\cL T p<=8)\/cL T p=10\/cL T p=11:=by unfold cL;rcases h.lo hp with⟨i,M,N⟩|N|N;rw[N,show 24-(13+3+i)=8-i from Nat.add_sub_add_left 16 8 i];exact .inl ⟨Nat.lt_sub_of_add_lt (eO i p▸Nat.add_lt_of_lt_sub M),iK _ _⟩;exact N▸.inr (.inl rfl);exact N▸.inr (.inr rfl)
def eV.Sz{T:aj}(h:eV T){i:Nat}(hi:i<=12):(8+i<cL T (8+i)/\cL T (8+i)<=20)\/cL T (8+i)=22\/cL T (8+i)=23:=by unfold cL;rcases h.hi hi with⟨j,M,N⟩|N|N;rw[N,show 24-(1+3+j)=20-j from Nat.add_sub_add_left 4 20 j];exact .inl ⟨Nat.lt_sub_of_add_lt (by rw[fC,eO i j];exact lJ (Nat.add_lt_of_lt_sub M) 8),iK _ _⟩;exact N▸.inr (.inl rfl);exact N▸.inr (.inr rfl)
def eV.VW{T:aj}(h:eV T):cG (T.drop 10)=cG (T.drop 11):=by
 obtain⟨a,z,C,rfl⟩:=h;have k:(a++lb (z::(a++lb [z]))).drop (8+2)=32::z::(a++lb [z]):=by refine C▸jG▸List.drop_left.symm▸?_;rfl
 have t:(a++lb (z::(a++lb [z]))).drop (8+3)=z::(a++lb [z]):=by refine C▸jG▸List.drop_left.symm▸?_;rfl
 refine k.symm▸t.symm▸?_;rfl
noncomputable def cX(T:aj)(p:Nat):Nat:=cL T p%12
noncomputable abbrev seg(T:aj)(a n:Nat):aj:=((T.drop a).take n).filter jb
def u3(T:aj)(i:Nat)(_:i<12):cX T i<12:=Nat.mod_lt _ dD
def D9{T:aj}{a m n:Nat}:seg T a (m+n)=seg T a m++seg T (a+m) n:=by delta seg;rw[List.take_add,jG,jH]
section
variable{T:aj}(tw:eV T)
include tw
def CO{p:Nat}(hp:p<=8):cL T p=cX T p/\((p<cX T p/\cX T p<=8)\/cX T p=10\/cX T p=11):=by
 have h:=tw.Sy hp;have e:cX T p=cL T p:=oJ (by
  rcases h with⟨D,h⟩|h|h
  ·exact bt h dD
  ·exact h▸by decide
  ·exact h▸by decide)
 rw[e];exact⟨rfl,h⟩
def PJ:cL T 11=12+cX T 11/\(cX T 11<=8\/cX T 11=10\/cX T 11=11):=by unfold cX;rcases tw.Sz (i:=3) dD with⟨M,N⟩|h|h;have M:12<=cL T 11:=M;obtain⟨r,e⟩:=Nat.exists_eq_add_of_le M;have N:12+r<=12+8:=e▸N;have l:=Nat.le_of_add_le_add_left N;rw[e,Nat.add_mod_left,oJ (bt l dD)];exact⟨rfl,.inl l⟩;exact(show cL T 11=22 from h)▸⟨rfl,.inr (.inl rfl)⟩;exact(show cL T 11=23 from h)▸⟨rfl,.inr (.inr rfl)⟩
def SA:cX T 9<=8\/cX T 9=10\/cX T 9=11:=by unfold cX;rcases tw.Sz (i:=1) dD with⟨M,N⟩|h|h;have M:10<=cL T 9:=M;have N:cL T 9<=20:=N;by_cases j:cL T 9<12;rw[oJ j];exact .inr ((lF M).elim (λ q=> .inr (w4 (iG j) q)) λ q=> .inl q.symm);obtain⟨r,e⟩:=Nat.exists_eq_add_of_le (Nat.le_of_not_lt j);have N:12+r<=12+8:=e▸N;have l:=Nat.le_of_add_le_add_left N;rw[e,Nat.add_mod_left,oJ (bt l dD)];exact .inl l;exact(show cL T 9=22 from h)▸.inr (.inl rfl);exact(show cL T 9=23 from h)▸.inr (.inr rfl)
def JK:cL T 10=cL T 11:=by delta cL;rw[tw.VW]
def JL:cX T 10=cX T 11:=aF (·%12) (JK tw)
structure VX(T:aj)(m p n s:Nat):Prop where
 nm:n<=m+1
 e:uZ (cX T) n p=s
 hs:s=10\/s=11
 lo:∀i,i<n->uZ (cX T) i p<=8
 le:p<=s
 c:(kE T (cX T) n p).filter jb=seg T p (s-p)
def SD(m:Nat):∀p,8<=p+m->(p<=8\/p=10\/p=11)->∃n s,VX T m p n s:=by
 have zero:∀{m p:Nat},p=10\/p=11->∃n s,VX T m p n s:=λ{m p} hp=>⟨0,p,cI _,rfl,hp,λ i hi=>absurd hi (jW i),ah _,by rw[Nat.sub_self];rfl⟩;have one:∀{m p:Nat},p<=8->cX T p=10\/cX T p=11->∃n s,VX T m p n s:=λ{m p} hp H=>by refine⟨1,cX T p,gK (cI _),rfl,H,λ i hi=> ?_,aa hp (H.elim (·▸by decide) (·▸by decide)),?_⟩;obtain rfl:=Nat.lt_one_iff.mp hi;exact hp;refine(?_:(vR T p++[]).filter jb=_);rw[dw,<-(CO tw hp).1];exact pX tw.len (aa hp dD)
 induction m with
 |zero=>intro p hm hp;rcases hp with hp|hp;rcases(CO tw hp).2 with⟨a,b⟩|H;exact absurd (ai a b) (aD hm);exact one hp H;exact zero hp
 |succ m z=>
  intro p hm hp;rcases hp with hp|hp;obtain⟨e,H⟩:=CO tw hp;rcases H with⟨a,b⟩|H;obtain⟨n,s,w,A,o,f,c,g⟩:=z (cX T p) (aa hm (by rw[eO m 1,<-fC];exact eH a m)) (.inl b);refine⟨n+1,s,gK w,A,o,λ i hi=> ?_,aa (bo a) c,?_⟩;induction i using nC with
  |zero=>exact hp|succ i=>exact f i (Nat.lt_of_succ_lt_succ hi)
  refine(?_:(vR T p++kE T (cX T) n (cX T p)).filter jb=_);rw[jH,g];have t:(vR T p).filter jb=seg T p (cX T p-p):=by exact e▸pX tw.len (aa hp dD)
  have d:s-p=(cX T p-p)+(s-cX T p):=by rw[eO];exact(Nat.sub_add_sub_cancel c (bo a)).symm
  rw[t,d,D9,oK (bo a)];exact one hp H;exact zero hp
def JM{q n:Nat}(o:q+n<=12):seg T (12+q) n=seg T q n:=by obtain⟨t,rfl,I⟩:=tw.half;have u:q<=t.length:=I▸aa (av q n) o;apply aF (List.filter jb);rw[<-jG,<-I,List.drop_left,List.drop_append_of_le_length u,List.take_append_of_le_length (by refine fk.symm▸I.symm▸?_;exact Nat.le_sub_of_add_le (aa (bO (eO n q)) o))]
structure Ring(T:aj)(n s:Nat):Prop where
 hs:s=10\/s=11
 q:cX T s=cX T 11
 e:uZ (cX T) n (cX T s)=s
 lo:∀i,i<n->uZ (cX T) i (cX T s)<=8
 nm:n<=9
 c:(vR T s++kE T (cX T) n (cX T s)).filter jb=seg T s 12
def SE:∃n s,Ring T n s:=by
 obtain⟨t,v⟩:=PJ tw;obtain⟨n,s,w,A,o,f,c,g⟩:=SD tw 8 (cX T 11) (hV 8 _) v;have es:cX T s=cX T 11:=o.elim (λ e=>e▸JL tw) (λ e=>by exact e.symm▸rfl);have x:cL T s=12+cX T 11:=o.elim (λ e=>by exact e.symm▸(JK tw).symm▸t.symm▸rfl) (λ e=>by exact e.symm▸t.symm▸rfl);refine⟨n,s,o,es,by refine es.symm▸?_;exact A,λ i hi=>by refine es.symm▸?_;exact f i hi,w,?_⟩;have j:s<=12:=o.elim (·▸by decide) (·▸by decide);have p:(vR T s).filter jb=seg T s (12+cX T 11-s):=by exact x▸pX tw.len (aa j dD)
 have b:12=(12+cX T 11-s)+(s-cX T 11):=((Nat.sub_add_sub_cancel (aa j (av _ _)) c).trans (Nat.add_sub_cancel ..)).symm;rw[jH,es,p,g,<-JM tw (q:=cX T 11) (n:=s-cX T 11) (by refine(oK c).symm▸?_;exact j)];have N:12+cX T 11=s+(12+cX T 11-s):=(oK (aa j (av _ _))).symm;have:=D9 (T:=T) (a:=s) (m:=12+cX T 11-s) (n:=s-cX T 11);rw[<-b,<-N]at this;exact this.symm
end
def lg(F:Nat->Nat)(a:Nat):∀(b p:Nat),uZ F (a+b) p=uZ F b (uZ F a p):=by induction a with
 |zero=>exact λ b p=>aF (λ n=>uZ F n p) (dy b)|succ a z=>exact λ b p=>(aF (λ n=>uZ F n p) (Nat.succ_add a b)).trans (z b (F p))
def Mm{F:Nat->Nat}(hF:∀i,i<12->F i<12)(j:Nat):∀{k p:Nat},p∈hM F k->uZ F j p∈hM F (k+j):=by induction j with
 |zero=>exact λ h=>h|succ j z=>intro k p hp;have:=z (k:=k+1) (p:=F p) ((jD hF).mpr ⟨p,hp,rfl⟩);rw[fD]at this;exact this
def PK{F:Nat->Nat}(hF:∀i,i<12->F i<12){k x:Nat}(j:Nat):x∈hM F (k+j)->x∈hM F k:=by induction j with
 |zero=>exact id|succ j z=>exact λ h=>z (D6 hF h)
def JN{F:Nat->Nat}(hF:∀i,i<12->F i<12)(k:Nat):∀{x:Nat},x∈hM F k->∃y,y<12/\uZ F k y=x:=by induction k with
 |zero=>exact λ h=>⟨_,dY.mp h,rfl⟩|succ k z=>intro x h;obtain⟨p,hp,e⟩:=(jD hF).mp h;obtain⟨y,T,d⟩:=z hp;exact⟨y,T,by rw[lg F k 1,d];exact e⟩
section
variable{T:aj}(tw:eV T)
include tw
omit tw in
def PL{n s:Nat}(r:Ring T n s)(j:Nat):∃b,b<=n/\uZ (cX T) j (cX T 11)=uZ (cX T) b (cX T 11):=by induction j with
 |zero=>exact⟨0,cI _,rfl⟩|succ j z=>obtain⟨b,U,e⟩:=z;rcases lF U with U|U;exact⟨b+1,U,by rw[lg _ j 1,lg _ b 1,e]⟩;refine⟨0,cI _,?_⟩;have i:=r.e;rw[r.q]at i;rw[lg _ j 1,e,U,i];exact r.q
omit tw in
def Mn{n s:Nat}(r:Ring T n s)(j:Nat):uZ (cX T) j (cX T 11)<=s:=by obtain⟨b,U,e⟩:=PL r j;refine e.symm▸r.q▸?_;rcases lF U with U|U;exact aa (r.lo b U) (r.hs.elim (·▸by decide) (·▸by decide));refine U.symm▸r.e.symm▸?_;exact ah _
def comes{y:Nat}(t:y<12):∃i,i<12/\uZ (cX T) (i+1) y=cX T 11:=by
 have key:∀{p:Nat},p<=8\/p=10\/p=11->∃i,i<=9/\uZ (cX T) (i+1) p=cX T 11:=λ{p} hp=>by obtain⟨n,s,f⟩:=SD tw 8 p (hV 8 p) hp;refine⟨n,f.nm,?_⟩;rw[lg _ n 1,f.e];exact f.hs.elim (λ e=>e▸JL tw) (λ e=>by refine e.symm▸?_;rfl)
 by_cases A:y=9;subst A;obtain⟨i,hi,e⟩:=key (SA tw);exact⟨i+1,bt (gK hi) dD,e⟩;obtain⟨i,hi,e⟩:=key (p:=y) ((by decide:∀y:Fin 12,y.1≠9->y.1<=8\/y.1=10\/y.1=11) ⟨y,t⟩ A);exact⟨i,bt hi dD,e⟩
def FY{n s x:Nat}(r:Ring T n s)(L:x∈hM (cX T) 12):x<=s:=by obtain⟨y,A,e⟩:=JN (u3 T) 12 L;obtain⟨i,hi,d⟩:=comes tw A;have N:12=(i+1)+(12-(i+1)):=(oK hi).symm;rw[N,lg,d]at e;exact e▸Mn r _
omit tw in
def FZ{n s:Nat}(r:Ring T n s):s∈hM (cX T) 12:=by
 have H:s<12:=r.hs.elim (·▸by decide) (·▸by decide);have a:uZ (cX T) (n+1) s=s:=r.e;have e:∀m,uZ (cX T) (m*(n+1)) s=s:=λ m=>by induction m with
  |zero=>rw[Nat.zero_mul];rfl|succ m z=>rw[Nat.succ_mul,lg,z,a]
 have m:=Mm (u3 T) (12*(n+1)) (k:=0) (dY.mpr H);rw[e,dy,Nat.mul_succ,eO]at m;exact PK (u3 T) _ m
omit tw in
def Mo{l:aj}{s:Nat}(I:l.Pairwise (·<·))(H:s∈l)(hm:∀x∈l,x<=s):∃a,l=a++[s]:=by obtain⟨a,b,rfl⟩:=List.append_of_mem H;refine⟨a,?_⟩;induction b with
 |nil=>rfl|cons y b=>have:=(List.pairwise_cons.mp (List.pairwise_append.mp I).2.1).1 y (.head _);exact absurd (hm y (sW a (.tail _ (.head _)))) (fB.mpr this)
def F0{n s:Nat}(r:Ring T n s):∃a,hM (cX T) 12=a++[s]:=Mo (Jy 12) (FZ r) λ x L=>FY tw r L
end
abbrev Pr:=(Nat×Nat)×Nat
noncomputable def sgn(x:Pr):Nat:=[65,97,57,x.1.1,x.1.2,x.1.1,x.1.2,66].getD x.2 0
noncomputable def fg(k:Nat):Nat:=[0,26,61,62,63,62,63,1].getD k 0
structure Good(x:Pr):Prop where
 d:jb (sgn x)=decide (fg x.2<62)
 v:fg x.2<62->b5 (sgn x)=fg x.2/\fg x.2∈fj
 l:sgn x<128/\sgn x≠61
def Nr(r k:Nat)(u:k<8):Good (d3 r,k):=by
 have key:∀r:Fin 6,∀k:Fin 8,jb (sgn (d3 r,k))=decide (fg k<62)/\(fg k<62->b5 (sgn (d3 r,k))=fg k/\fg k∈fj)/\sgn (d3 r,k)<128/\sgn (d3 r,k)≠61:=by decide+kernel
 have fin:∀r:Fin 6,Good (d3 r,k):=λ r=>let⟨a,b,c⟩:=key r ⟨k,u⟩;⟨a,b,c⟩
 match r with
 |0=>exact fin 0|1=>exact fin 1
 |2=>exact fin 2|3=>exact fin 3
 |4=>exact fin 4|_+5=>exact fin 5
def JO(S:List Pr)(h:∀x∈S,Good x):((S.map sgn).filter jb).map b5=jd (S.map λ x=>fg x.2)/\∀v∈jd (S.map λ x=>fg x.2),v∈fj:=by induction S with
 |nil=>exact⟨rfl,mN⟩|cons x S z=>obtain⟨m,A⟩:=z λ y T=>h y (.tail _ T);have g:=h x (.head _);rw[fG,fG,show jd (fg x.2::S.map λ x=>fg x.2)=if decide (fg x.2<62)=true then fg x.2::jd (S.map λ x=>fg x.2)else jd (S.map λ x=>fg x.2) from gS,gS,g.d];by_cases e:fg x.2<62;rw[ar (af e),ar (af e),fG,m,(g.v e).1];exact⟨rfl,λ v n=>(aT.mp n).elim (λ q=>q▸(g.v e).2) (A v)⟩;rw[au λ q=>e (ae q),au λ q=>e (ae q)];exact⟨m,A⟩
def rM(k:Nat):fg k<64:=by match k with
 |0=>decide|1=>decide
 |2=>decide|3=>decide
 |4=>decide|5=>decide
 |6=>decide|7=>decide
 |k+8=>exact(show 0<64 by decide)
def JP:∀a∈[0,26,61,62,63,1],∀b∈[0,26,61,62,63,1],∀c∈[0,26,61,62,63,1],∀d∈[0,26,61,62,63,1],yn (qQ (mC a b c d))=[ou a,ou b,ou c,ou d]:=by decide+kernel
def Ea{k:Nat}(u:k<8):fg k∈[0,26,61,62,63,1]:=(by decide:∀k:Fin 8,fg k∈[0,26,61,62,63,1]) ⟨k,u⟩
def Eb(m:Nat×Nat){k:Nat}(u:k<8):sw m.1 m.2 (ou (fg k))=sgn (m,k):=by match k,u with
 |0,_=>rfl|1,_=>rfl
 |2,_=>rfl|3,_=>rfl
 |4,_=>rfl|5,_=>rfl
 |6,_=>rfl|7,_=>rfl
 |k+8,h=>exact absurd h (aD (hV _ _))
def F1(m:Nat×Nat){a b c d:Nat}(C:a<8)(U:b<8)(w:c<8)(hd:d<8):enc m.1 m.2 (pT [fg a,fg b,fg c,fg d])=[sgn (m,a),sgn (m,b),sgn (m,c),sgn (m,d)]:=by refine(?_:(yn (qQ (mC (fg a) (fg b) (fg c) (fg d))++[])).map (sw m.1 m.2)=_);rw[dw,JP _ (Ea C) _ (Ea U) _ (Ea w) _ (Ea hd)];rw[<-Eb m C,<-Eb m U,<-Eb m w,<-Eb m hd];rfl
def A0{p:Nat->Bool}(l:aj):∀(e:Bool),∀c∈(dW p l e []).1,c∈l:=by induction l with
 |nil=>exact λ e c h=>h|cons a r z=>
  have one:∀c∈(dW p r false ([]++[a])).1,c∈a::r:=λ c w=>by rw[mD r false ([]++[a])]at w;rcases aT.mp (show c∈a::(dW p r false []).1 from w)with e|w;exact e▸.head _;exact .tail _ (z false c w)
  intro e;induction e with
  |true=>exact one|false=>by_cases h:p a=true;exact dQ h▸λ c w=>mn w;have h:=kM.mpr h;by_cases N:a=92;rw[N]at h⊢;exact fY h▸λ c w=> .tail _ (z true c w);exact fX h N▸one
def JQ(l:aj):∀c∈(cG l).1,c∈l:=by induction l with
 |nil=>exact λ c h=>h|cons a r z=>by_cases h:mT a=true;rw[pV h];exact λ c w=> .tail _ (z c w);have h:=kM.mpr h;by_cases N:a=34;subst N;exact λ c w=> .tail _ (A0 r false c w);exact pU h N▸A0 (a::r) false
noncomputable def dK(ns:List Int):aj:=(ns.take 9).map λ i=>(Int.fmod i 1000000).toNat
def CP(ns:List Int):(dK ns).length<=9:=by unfold dK;rw[a7,List.length_take];exact Nat.min_le_left _ _
noncomputable def s9:aj:=[3,1,4,0,3,4,7,4,1]
noncomputable def PM(ns:List Int)(i:Nat):Nat:=(s9.getD i 0+(dK ns++List.replicate 9 0).getD i 0)%8
noncomputable def kL(a:Nat->Nat):aj:=[a 0,a 1,a 2,a 3,a 4,a 5,a 6,a 7,0,3,4,a 8]
def Nt{a:Nat->Nat}(C:∀i,a i<8):∀k∈kL a,k<8:=λ k u=>by rcases aT.mp u with rfl|u;exact C 0;rcases aT.mp u with rfl|u;exact C 1;rcases aT.mp u with rfl|u;exact C 2;rcases aT.mp u with rfl|u;exact C 3;rcases aT.mp u with rfl|u;exact C 4;rcases aT.mp u with rfl|u;exact C 5;rcases aT.mp u with rfl|u;exact C 6;rcases aT.mp u with rfl|u;exact C 7;rcases aT.mp u with rfl|u;decide;rcases aT.mp u with rfl|u;decide;rcases aT.mp u with rfl|u;decide;exact bX.mp u▸C 8
def VY{ys:aj}(h:9<=ys.length):Kv (.list (nums s9)) (.list (nums ys))=some ((List.range 9).map λ i=>V.tuple [.int (s9.getD i 0:Nat),.int (ys.getD i 0:Nat)]):=by
 refine aF some (List.ext_getElem ?_ λ i M N=> ?_);rw[List.length_zipWith,bh,bh,a7,eB];exact Nat.min_eq_left h;have hi:i<9:=by rw[a7,eB]at N;exact N
 rw[List.getElem_zipWith,List.getElem_map,List.getElem_map,List.getElem_map,List.getElem_range,jX,jX,gN (show i<s9.length from hi),gN (ai hi h)];rfl
noncomputable def mX(r:Nat):Nat->Nat×Nat
 |0=>d3 (r%6)|1=>d3 ((r+1)%6)
 |_=>d3 0
noncomputable abbrev qS(a:Nat->Nat)(i:Nat):Nat:=(kL a).getD i 0
noncomputable def pL(r:Nat)(a:Nat->Nat):List Pr:=(List.range 12).map λ i=>(mX r (i/4),qS a i)
noncomputable def Ec(r:Nat)(a:Nat->Nat)(k:Nat):aj:=[sgn (mX r k,qS a (4*k)),sgn (mX r k,qS a (4*k+1)),sgn (mX r k,qS a (4*k+2)),sgn (mX r k,qS a (4*k+3))]
noncomputable abbrev Qd(m:Nat×Nat):V:= .str [m.1,m.2]
noncomputable abbrev vU(r:Nat):V:= .list [Qd (mX r 0),Qd (mX r 1),Qd (mX r 2)]
noncomputable abbrev gF:V:= .list [.str [34,32],.str [92,34],.str [9,92],.str [34,13],.str [10,34],.str [92,10]]
def u4{α:Type}(vs:List α)(k:Nat):cg vs none (some (k:Int))=vs.take k:=by refine(?_:(vs.drop 0).take (clipAt vs.length (k:Int)-0)=_);rw[sN];refine(?_:vs.take (min k vs.length)=vs.take k);by_cases h:k<=vs.length;rw[Nat.min_eq_left h];have h:=Nat.le_of_not_le h;rw[Nat.min_eq_right h,List.take_length,lM h]
noncomputable abbrev LF(i v2 c w j L p q v10 l N s d m v v20:V):aw:=[i,.aC,v2,c,w,j,.aC,L,p,q,v10,.aC,l,N,.aC,s,.aC,d,m,v,v20]
def Mp{k:Nat}(u:k<8):iQ Y (.list (nums [0,26,61,62,63,62,63,1])) (.int (k:Int))=some (.int (fg k:Nat)):=by match k,u with
 |0,_=>rfl|1,_=>rfl
 |2,_=>rfl|3,_=>rfl
 |4,_=>rfl|5,_=>rfl
 |6,_=>rfl|7,_=>rfl
 |k+8,h=>exact absurd h (aD (hV _ _))
def Mq{a b:ME}{k:Nat}{K:fA}{va:V}(C:Ev J d a B Y va)(h:wE J pg d b (λ vb Y=>opt (Kv va vb) λ vs=>K (.it true vs) Y) B Y):wE J pg d (.zip k a b) K B Y:=C _ h
def Ed{vs:aw}{lo hi:Option Int}(h:vs.length<=1000000):qo Y (.list vs) lo hi=some (.list (cg vs lo hi)):=ar (af h)
def SF(H:Hd J){ns:List Int}(p:ns.length<=63){r:List MS}{Q:Fl->aw->Mem->Prop}(h:∀(a:Nat->Nat)(t:Nat)(v2:V),(∀i,a i<8)->wSs J pg d r Q (LF (.list (ns.map .int)) v2 .aC (.list (nums ((List.range 9).map a))) (.list (nums (kL a))) (.list (nums ((kL a).map fg))) gF (.int (t:Int)) (vU t) .aC .aC .aC .aC .aC .aC .aC) Y):wSs J pg d (gE.take 7++r) Q (LF (.list (ns.map .int)) .aC .aC .aC .aC .aC .aC .aC .aC .aC .aC .aC .aC .aC .aC .aC) Y:=by
 have s:(ns.take 9).length<=9:=by rw[List.length_take];exact Nat.min_le_left _ _
 refine bW (v:= .list (nums (dK ns))) (λ K k=> ?_) ?_;refine DE V.int (vi:= .list ((ns.map V.int).take 9)) (l:=ns.take 9) (g:=λ D=>True) (mA (vo:= .list (ns.map .int)) (l:=none) (h:=some ((9:Nat):Int)) aB (λ K k=>pO k) (λ K k=>c9 (n:=((9:Nat):Int)) aB k) ?_) (aF (λ l=>some (false,l,_)) List.map_take.symm) (λ i=>V.int ((Int.fmod i 1000000).toNat:Int)) trivial (λ i D M m=> ?_) (aa s dD) ?_;refine(ar (af (by rw[a7];exact aa p dD))).trans ?_;rw[u4];rw[<-I9]at m;exact Cu (Ev.bin (va:= .int i) (vb:= .int 1000000) (pE (b:= .ty .int) (w:= .int i) aB rfl aB rfl) (Ev.bin (va:= .int 10) (vb:= .int 6) aB aB rfl) rfl) m;rw[show(ns.take 9).map (λ i=>V.int ((Int.fmod i 1000000).toNat:Int))=nums (dK ns) by rw[nums,dK,fo];rfl];exact k;have x:=CP ns;have U:9<=(dK ns++List.replicate 9 0).length:=by rw[bH,s6];exact hV _ _
 refine bW (v:= .list (nums ((List.range 9).map (PM ns)))) (λ K k=> ?_) ?_;have N:∀K:fA,K (.it true ((List.range 9).map λ i=>V.tuple [.int (s9.getD i 0:Nat),.int ((dK ns++List.replicate 9 0).getD i 0:Nat)])) Y->wE J pg d (.zip 40 (.list false [.lit (.int 3),.lit (.int 1),.lit (.int 4),.lit (.int 0),.lit (.int 3),.lit (.int 4),.lit (.int 7),.lit (.int 4),.lit (.int 1)]) (.bin .Add (.var 2) (.bin .Mult (.list false [.lit (.int 0)]) (.lit (.int 9))))) K (LF (.list (ns.map .int)) (.list (nums (dK ns))) .aC .aC .aC .aC .aC .aC .aC .aC .aC .aC .aC .aC .aC .aC) Y:=λ K k=>by have G:Ev J d (.bin .Add (.var 2) (.bin .Mult (.list false [.lit (.int 0)]) (.lit (.int 9)))) (LF (.list (ns.map .int)) (.list (nums (dK ns))) .aC .aC .aC .aC .aC .aC .aC .aC .aC .aC .aC .aC .aC .aC) Y (.list (nums (dK ns++List.replicate 9 0))):=Ev.bin (va:= .list (nums (dK ns))) (vb:= .list (nums (List.replicate 9 0))) aB (Ev.bin (va:= .list [.int 0]) (vb:= .int 9) aB aB rfl) (add_list (aa (dS x (bO s6)) dD));exact Mq (va:= .list (nums s9)) aB (G _ (cz (VY U) k))
 refine kA N rfl (eu (λ i:Nat=>V.tuple [.int (s9.getD i 0:Nat),.int ((dK ns++List.replicate 9 0).getD i 0:Nat)]) (λ i=>[V.int (PM ns i:Nat)]) (λ σ'=>σ'=Y) (λ D D=>trivial) (List.range 9) [] Y (λ i hi M σ' e m=> ?_) rfl (by rw[iM,fy,a7,eB];decide) λ σ' e=> ?_);subst e;have he:Ev J d (.bin .Mod (.bin .Add (.var 3) (.var 1)) (.lit (.int 8))) ((LF (.list (ns.map .int)) (.list (nums (dK ns))) (.int (s9.getD i 0:Nat)) .aC .aC .aC .aC .aC .aC .aC .aC .aC .aC .aC .aC .aC).set 1 (.int ((dK ns++List.replicate 9 0).getD i 0:Nat))) σ' (.int (PM ns i:Nat)):=Ev.bin (vb:= .int ((8:Nat):Int)) (Ev.bin (va:= .int (s9.getD i 0:Nat)) (vb:= .int ((dK ns++List.replicate 9 0).getD i 0:Nat)) (qK rfl vn) (qK rfl vn) (sP _ _)) aB (mV _ 8 dD);exact Cu he (m _ rfl);subst e;rw[iM,fy,show(List.range 9).map (λ i=>V.int (PM ns i:Nat))=nums ((List.range 9).map (PM ns)) from fo.symm];exact⟨af (by rw[bh,a7,eB];decide),k⟩;have C:∀i,PM ns i<8:=λ i=>Nat.mod_lt _ dD;generalize PM ns=a at C⊢;refine bW (v:= .list (nums (kL a))) (Ev.bin (va:= .list (nums [a 0,a 1,a 2,a 3,a 4,a 5,a 6,a 7,0,3,4])) (vb:= .list (nums [a 8])) (Ev.bin (va:= .list (nums [a 0,a 1,a 2,a 3,a 4,a 5,a 6,a 7])) (vb:= .list (nums [0,3,4])) ?_ aB rfl) ?_ rfl) ?_;exact mA (vo:= .list (nums ((List.range 9).map a))) (l:=none) (h:=some ((8:Nat):Int)) aB (λ K k=>pO k) (λ K k=>c9 (n:=((8:Nat):Int)) aB k) ((Ed (by exact(by decide:9<=1000000))).trans (aF (λ l=>some (V.list l)) (u4 (nums ((List.range 9).map a)) 8)));exact mA (vo:= .list (nums ((List.range 9).map a))) (l:=some ((8:Nat):Int)) (h:=none) aB (λ K k=>c9 (n:=((8:Nat):Int)) aB k) (λ K k=>pO k) ((Ed (by exact(by decide:9<=1000000))).trans (aF (λ l=>some (V.list l)) (uY (l:=nums ((List.range 9).map a)) (j:=8) (by exact(by decide:8<=9)))));refine bW (v:= .list (nums ((kL a).map fg))) (λ K k=> ?_) ?_;refine DE (λ k:Nat=>V.int (k:Int)) (vi:= .list (nums (kL a))) (l:=kL a) (g:=λ D=>True) aB rfl (λ k=>V.int (fg k:Nat)) trivial (λ i hi=>Ev.sub (va:= .list (nums [0,26,61,62,63,62,63,1])) (vb:= .int (i:Int)) aB aB (Mp (Nt C i hi))) (by exact(by decide:12<=100000)) ?_;exact k;refine bW (v:=gF) aB ?_;refine bW (v:= .int (((dK ns).sum/8:Nat):Int)) (Ev.bin (vb:= .int ((8:Nat):Int)) (pE (b:= .bi .sum) (w:= .list (nums (dK ns))) aB rfl (cF.one rfl λ K k=>k) (Vx (aa x dD))) aB (pM _ 8 dD dD)) ?_;generalize (dK ns).sum/8=t;refine bW (v:=vU t) (Ev.list (cF.cons rfl (Ev.sub (va:=gF) aB (Ev.bin (va:= .int (t:Int)) (vb:= .int ((6:Nat):Int)) aB aB (mV _ 6 dD)) (qO _ (Nat.mod_lt _ dD))) (cF.cons rfl (Ev.sub (va:=gF) aB (Ev.bin (va:= .int ((t+1:Nat):Int)) (vb:= .int ((6:Nat):Int)) (Ev.bin (va:= .int (t:Int)) (vb:= .int ((1:Nat):Int)) aB aB (sP _ _)) aB (mV _ 6 dD)) (qO _ (Nat.mod_lt _ dD))) (cF.one rfl (Ev.sub (va:=gF) (vb:= .int ((0:Nat):Int)) aB aB (qO 0 dD)))))) ?_;exact h a t _ C
def CQ(r k:Nat):∃q,mX r k=d3 q:=by match k with
 |0=>exact⟨_,rfl⟩|1=>exact⟨_,rfl⟩
 |_+2=>exact⟨0,rfl⟩
def oC{a:Nat->Nat}(C:∀i,a i<8)(i:Nat):qS a i<8:=by refine(?_:(kL a).getD i 0<8);rw[jX];cases e:(kL a)[i]?with
 |none=>exact(by decide:0<8)|some k=>exact Nt C k (nr e)
def yP(r:Nat){a:Nat->Nat}(C:∀i,a i<8):∀x∈pL r a,Good x:=λ x L=>by obtain⟨i,D,rfl⟩:=bV.mp L;obtain⟨q,e⟩:=CQ r (i/4);exact e▸Nr q _ (oC C i)
noncomputable abbrev tL(r:Nat)(a:Nat->Nat):aj:=(pL r a).map sgn
def JR(q:Nat):(d3 q).1<128/\(d3 q).2<128:=by match q with
 |0=>decide|1=>decide
 |2=>decide|3=>decide
 |4=>decide|_+5=>exact(by decide:92<128/\10<128)
def PN(r k:Nat):(mX r k).1<128/\(mX r k).2<128:=by obtain⟨q,e⟩:=CQ r k;exact e▸JR q
def CR{α:Type}(f:α->aj)(l:List α):strsOf (l.map λ a=>V.str (f a))=some (l.map f):=by induction l with
 |nil=>rfl|cons a l z=>exact aF (Option.map (f a::·)) z
def F3(a:List aj):eC [] a=a.flatten:=by induction a with
 |nil=>rfl|cons x r z=>induction r with
  |nil=>exact(dw x).symm|cons y r=>refine(?_:x++[]++eC [] (y::r)=x++(y::r).flatten);rw[z,dw]
def JS{α:Type}(f:α->Nat)(l:List α):(l.map λ a=>[f a]).flatten=l.map f:=by induction l with
 |nil=>rfl|cons a l z=>exact aF (f a::·) z
def A3{e:ME}{es:List ME}{K:aw->Mem->Prop}(M:e.isStar=false)(h:wE J pg d e (λ v Y=>wEs J pg d es (λ vs Y=>K (v::vs) Y) B Y) B Y):wEs J pg d (e::es) K B Y:=by cases e with
 |star a=>exact nf M.symm|_=>exact h
def Ee{r k:Nat}(u:k<3):iQ Y (vU r) (.int (k:Int))=some (Qd (mX r k)):=by match k,u with
 |0,_=>rfl|1,_=>rfl
 |2,_=>rfl|k+3,h=>exact absurd h (aD (hV _ _))
def JT{a:Nat->Nat}{k:Nat}(u:k<3):(((kL a).map fg).drop (4*k)).take 4=[fg (qS a (4*k)),fg (qS a (4*k+1)),fg (qS a (4*k+2)),fg (qS a (4*k+3))]:=by match k,u with
 |0,_=>rfl|1,_=>rfl
 |2,_=>rfl|k+3,h=>exact absurd h (aD (hV _ _))
def Mr{m:Nat×Nat}{k:Nat}(u:k<8):iQ Y (.str ([65,97,57]++[m.1,m.2,m.1,m.2]++[66])) (.int (k:Int))=some (.str [sgn (m,k)]):=by match k,u with
 |0,_=>rfl|1,_=>rfl
 |2,_=>rfl|3,_=>rfl
 |4,_=>rfl|5,_=>rfl
 |6,_=>rfl|7,_=>rfl
 |k+8,h=>exact absurd h (aD (hV _ _))
def JU{a:Nat->Nat}{i:Nat}(hi:i<12):iQ Y (.list (nums (kL a))) (.int (i:Int))=some (.int (qS a i:Nat)):=by
 refine(?_:(if decide ((nums (kL a)).length<=1000000)then idx (nums (kL a)) (i:Int)else none)=_);refine(ar (af (by exact(by decide:12<=1000000)))).trans ((pK _ i).trans ?_);rw[gL,show(kL a)[i]? =some (qS a i) by
  refine(?_:_=some ((kL a).getD i 0))
  rw[jX,gN (show i<(kL a).length from hi)]
  rfl]
 rfl
def asc{l:aj}(h:∀c∈l,c<128):ascii l=true:=fE.mpr λ c w=>af (h c w)
def SH(H:Hd J){a:Nat->Nat}{t:Nat}(C:∀i,a i<8){r:List MS}{Q:Fl->aw->Mem->Prop}{s v2 T U:V}(h:∀σ' j,Ext Y σ'->wSs J pg (d+4) r Q (LF s v2 .aC T (.list (nums (kL a))) (.list (nums ((kL a).map fg))) gF U (vU t) j (.str (tL t a)) .aC .aC .aC .aC .aC) σ'):wSs J pg (d+4) ((gE.drop 7).take 3++r) Q (LF s v2 .aC T (.list (nums (kL a))) (.list (nums ((kL a).map fg))) gF U (vU t) .aC .aC .aC .aC .aC .aC .aC) Y:=by
 have good:=yP t C;have Zw:∀k,k<3->∀c∈Ec t a k,c<128:=λ k u c p=>by
  have one:∀i,sgn (mX t k,qS a i)<128:=λ i=>by obtain⟨q,e⟩:=CQ t k;exact e▸(Nr q _ (oC C i)).l.1
  rcases aT.mp p with rfl|p;exact one _;rcases aT.mp p with rfl|p;exact one _;rcases aT.mp p with rfl|p;exact one _;exact bX.mp p▸one _
 refine O4 (v:= .list ((List.range 3).map λ k=>V.bytes (Ec t a k))) (λ K k=> ?_) λ o I=> ?_;refine ym (λ k:Nat=>V.int (k:Int)) (vi:= .it false (nums (List.range 3))) (l:=List.range 3) (g:=λ D=>True) (Ev.range (n:=3) rfl aB dD) rfl (λ k=>V.bytes (Ec t a k)) (Ext Y) (.refl Y) (λ D D=>trivial) (λ k u K' σ' ex m=> ?_) dD λ σ' ex=>k σ' ex;have u:=dY.mp u;have z:Ev J (d+4) (.slice (.var 7) (some (.bin .Mult (.lit (.int 4)) (.var 11))) (some (.bin .Add (.bin .Mult (.lit (.int 4)) (.var 11)) (.lit (.int 4))))) ((LF s v2 .aC T (.list (nums (kL a))) (.list (nums ((kL a).map fg))) gF U (vU t) .aC .aC .aC .aC .aC .aC .aC).set 11 (.int (k:Int))) σ' (.list (nums [fg (qS a (4*k)),fg (qS a (4*k+1)),fg (qS a (4*k+2)),fg (qS a (4*k+3))])):=by
  refine(JT u)▸?_;have hm:Ev J (d+4) (.bin .Mult (.lit (.int 4)) (.var 11)) ((LF s v2 .aC T (.list (nums (kL a))) (.list (nums ((kL a).map fg))) gF U (vU t) .aC .aC .aC .aC .aC .aC .aC).set 11 (.int (k:Int))) σ' (.int ((4*k:Nat):Int)):=Ev.bin (va:= .int ((4:Nat):Int)) (vb:= .int (k:Int)) aB aB (DU dD (fz u dD));exact k9 (v:= .list (nums ((kL a).map fg))) (a:=4*k) (b:=4) rfl aB (λ K q=>c9 hm q) (λ K q=>c9 (Ev.bin (va:= .int ((4*k:Nat):Int)) (vb:= .int ((4:Nat):Int)) hm aB rfl) q) (by
   exact iH 4 (bo u)) (by exact(by decide:12<=1000000)) rfl
 refine fh (a:=mm) aB (A3 rfl (fh (a:=gI) aB (lE (cF.one rfl z) ?_)));refine nJ (d:=d+3) H (k:=1) rfl dD (λ f hf=> ?_) λ aU y=> ?_;rcases aT.mp hf with rfl|hf;exact rM _;rcases aT.mp hf with rfl|hf;exact rM _;rcases aT.mp hf with rfl|hf;exact rM _;exact bX.mp hf▸rM _;have N:=PN t k;refine lE (vs:=[.bytes [(mX t k).1,(mX t k).2]]) (cF.one rfl λ K k=>i8 (v:=Qd (mX t _)) (Ev.sub (va:=vU t) aB aB (Ee u)) rfl (w:= .str [97,115,99,105,105]) aB (c8 (J:=J) (d:=d+4) rfl (LZ N.1 N.2) k)) ?_;refine yq (d:=d+1) H _ _ _ (by exact(by decide:3<=40000)) (λ b G=> ?_) λ kG L=> ?_;exact yL (yK (rM _) (rM _) (rM _) (rM _)) b (by rw[show pT [fg (qS a (4*k)),fg (qS a (4*k+1)),fg (qS a (4*k+2)),fg (qS a (4*k+3))]=qQ (mC _ _ _ _) from dw _]at G;exact G);exact F1 (mX t k) (oC C _) (oC C _) (oC C _) (oC C _)▸m _ ((ex.trans y).trans L);have E:Ec t a 0++(Ec t a 1++Ec t a 2)=tL t a:=rfl;have A:∀c∈tL t a,c<128:=λ c p=>by obtain⟨x,hx,rfl⟩:=bV.mp p;exact(good x hx).l.1
 refine bW (v:= .str (tL t a)) (λ K k=> ?_) ?_;refine i8 (v:= .bytes (tL t a)) (x:=(.bm .jq,[.bytes (tL t a)])) (λ K k=> ?_) rfl (w:= .str [97,115,99,105,105]) aB (c8 (J:=J) (d:=d+4) rfl (ar (jI (jI rfl (asc A)) rfl)) k);refine i8 (v:= .bytes []) (x:=(.bm .q4,[.bytes []])) aB rfl (w:= .list ((List.range 3).map λ k=>V.bytes (Ec t a k))) aB (c8 (J:=J) (d:=d+4) rfl ?_ k);refine(?_:(if short (Ec t a 0++(Ec t a 1++Ec t a 2))then some (V.bytes (Ec t a 0++(Ec t a 1++Ec t a 2)),o)else none)=_);exact E▸ar rfl;refine yz (pP ?_);refine Cu (v:= .str (tL t a)) aB ?_;have hj:Ev J (d+4) (.a9 (.lit (.str [])) 7 [.comp false (.sub (.bin .Add (.bin .Add (.lit (.str [65,97,57])) (.bin .Mult (.sub (.var 10) (.bin .FloorDiv (.var 14) (.lit (.int 4)))) (.lit (.int 2)))) (.lit (.str [66]))) (.sub (.var 5) (.var 14))) [14] (.range 17 [.lit (.int 12)]) []]) (LF s v2 .aC T (.list (nums (kL a))) (.list (nums ((kL a).map fg))) gF U (vU t) (.list ((List.range 3).map λ k=>V.bytes (Ec t a k))) (.str (tL t a)) .aC .aC .aC .aC .aC) o (.str (tL t a)):=λ K k=>by refine i8 (v:= .str []) (x:=(.bm .qZ,[.str []])) aB rfl (w:= .list ((List.range 12).map λ i=>V.str [sgn (mX t (i/4),qS a i)])) (cF.one rfl λ K k=> ?_) (c8 (J:=J) (d:=d+4) rfl (v:= .str (tL t a)) (σ':=o) ?_ k);refine DE (λ k:Nat=>V.int (k:Int)) (vi:= .it false (nums (List.range 12))) (l:=List.range 12) (g:=λ D=>True) (Ev.range (n:=12) rfl aB dD) rfl (λ i=>V.str [sgn (mX t (i/4),qS a i)]) trivial (λ i hi=> ?_) dD k;have hi:=dY.mp hi;refine Ev.sub (va:= .str ([65,97,57]++[(mX t (i/4)).1,(mX t (i/4)).2,(mX t (i/4)).1,(mX t (i/4)).2]++[66])) (vb:= .int (qS a i:Nat)) ?_ (Ev.sub (va:= .list (nums (kL a))) (vb:= .int (i:Int)) aB aB (JU hi)) (Mr (oC C i));refine Ev.bin (va:= .str ([65,97,57]++[(mX t (i/4)).1,(mX t (i/4)).2,(mX t (i/4)).1,(mX t (i/4)).2])) (vb:= .str [66]) (Ev.bin (va:= .str [65,97,57]) aB (Ev.bin (va:=Qd (mX t (i/4))) (vb:= .int 2) (Ev.sub (va:=vU t) (vb:= .int ((i/4:Nat):Int)) aB (Ev.bin (va:= .int (i:Int)) (vb:= .int ((4:Nat):Int)) aB aB (pM _ 4 dD dD)) (Ee (Nat.div_lt_of_lt_mul hi))) aB rfl) rfl) aB rfl;refine(?_:(match strsOf ((List.range 12).map λ i=>V.str [sgn (mX t (i/4),qS a i)])with|some M=>if short (eC [] M)&&short M&&short ([]:aj)then some (V.str (eC [] M),o)else none|none=>none)=_);rw[CR];refine(?_:(if short (eC [] _)&&short _&&short ([]:aj)then some (V.str (eC [] ((List.range 12).map λ i=>[sgn (mX t (i/4),qS a i)])),o)else none)=_);rw[F3,JS];exact(ar rfl).trans (aF (λ l=>some (V.str l,o)) (fo (f:=λ i=>(mX t (i/4),qS a i)) (g:=sgn)).symm)
 refine hj _ (cz (a:=false) ?_ ?_);refine(?_:some (!((tL t a)==(tL t a)))=_);rw[f9];rfl;exact ei (h o _ I)
noncomputable abbrev TT(r:Nat)(a:Nat->Nat):aj:=tL r a++tL r a
def JV(r:Nat)(a:Nat->Nat):eV (TT r a):=⟨(tL r a).take 8,sgn (mX r 2,a 8),rfl,rfl⟩
def A4(n:Nat)(b:Bool):xi n (.bool b) (.bool b)=some true:=by induction n<;>exact aF some (f9 b)
def JW(T:aj):Qp (dk T) (dk T)=some true:=pN (n:=5) λ v p=>by obtain⟨i,D,rfl⟩:=bV.mp p;refine wX (n:=4) λ v p=> ?_;rcases aT.mp p with rfl|p;exact yx ..;rcases aT.mp p with rfl|p;exact LY ..;exact bX.mp p▸yx ..
def Ms(n:Nat)(l:aj):xi (n+1) (.list (nums l)) (.list (nums l))=some true:=pN λ v p=>by obtain⟨k,D,rfl⟩:=bV.mp p;exact yx ..
def F4(F:Nat->Nat):Qp (sS F) (sS F)=some true:=wX (n:=5) λ v p=>by
 rcases aT.mp p with rfl|p;exact A4 ..;rcases aT.mp p with rfl|p;exact pN (n:=4) λ v p=>by obtain⟨g,D,rfl⟩:=bV.mp p;exact Ms 3 g
 rcases aT.mp p with rfl|p;exact pN (n:=4) mN;exact bX.mp p▸A4 ..
def SI(H:A9 J){t:aj}(I:t.length=12){r:List MS}{Q:Fl->aw->Mem->Prop}{x v2 w q L o v10 b:V}(h:∀σ' m,Ext Y σ'->wSs J pg (d+5) r Q (LF x v2 .aC w q L gF o v10 b (.str t) (dk (t++t)) (.list (nums ((List.range 12).map (cX (t++t))))) m (.list (nums (hM (cX (t++t)) 12))) .aC) σ'):wSs J pg (d+5) ((gE.drop 10).take 5++r) Q (LF x v2 .aC w q L gF o v10 b (.str t) .aC .aC .aC .aC .aC) Y:=by
 have G:(t++t).length=24:=by exact bH.symm▸I.symm▸rfl
 have f:∀{B:aw}{Y:Mem},B[13]? =some (.str t)->Ev J (d+5) (.bin .Add (.var 13) (.var 13)) B Y (.str (t++t)):=λ hf=>Ev.bin (va:= .str t) (vb:= .str t) (qK hf vn) (qK hf vn) (ar (af (by refine I.symm▸?_;decide)));refine O4 (v:=dk (t++t)) (λ K k=> ?_) λ M u=> ?_;refine ym (λ k:Nat=>V.int (k:Int)) (vi:= .it false (nums (List.range 12))) (l:=List.range 12) (g:=λ D=>True) (Ev.range (n:=12) rfl aB dD) rfl (la (t++t)) (Ext Y) (.refl Y) (λ D D=>trivial) (λ j e z σ' ex p=> ?_) dD λ σ' ex=>k σ' ex;have e:=dY.mp e;refine fh (a:=mu) aB (lE (vs:=[.str (t++t),.int (j:Int)]) (cF.cons rfl (f rfl) (cF.one rfl (qK rfl vn))) ?_);exact AM (d:=d) H G (fz e dD) λ y c=>p _ (ex.trans c);refine yz (pP (Cu (v:=dk (t++t)) aB ?_));refine fh (a:=oq) aB (lE (vs:=[.str (t++t)]) (cF.one rfl (f rfl)) ?_);refine CJ (d:=d+3) H.hd G λ T c=> ?_;refine cz (a:=false) (aF (Option.map (!·)) (JW (t++t))) (ei ?_);refine bW (v:= .list (nums ((List.range 12).map (cX (t++t))))) (λ K k=> ?_) ?_;refine DE (la (t++t)) (vi:=dk (t++t)) (l:=List.range 12) (g:=λ D=>True) aB rfl (λ i=>V.int (cX (t++t) i:Nat)) trivial (λ i hi=> ?_) dD ?_;exact Ev.bin (va:= .int (cL (t++t) i:Nat)) (vb:= .int ((12:Nat):Int)) (Ev.sub (va:=la (t++t) i) (vb:= .int 0) (qK rfl vn) aB rfl) aB (mV _ 12 dD);exact(show(List.range 12).map (λ i=>V.int (cX (t++t) i:Nat))=nums ((List.range 12).map (cX (t++t))) from fo.symm)▸k;have hF:=u3 (t++t);refine unpack_ (fh (a:=jU) aB (lE (vs:=[.list (nums ((List.range 12).map (cX (t++t))))]) (cF.one rfl λ K k=>k) ?_));refine vS (d:=d+4) H.hd hF λ A U=>⟨rfl,?_⟩;refine yz (pP (fh (a:=jT) aB (lE (vs:=[.list (nums ((List.range 12).map (cX (t++t))))]) (cF.one rfl λ K k=>k) ?_)));refine vT (d:=d) H.hd hF λ s N=> ?_;have C:Ev J (d+5) (.tuple [.lit (.bool true),.var 18,.list false [],.lit (.bool false)]) (LF x v2 .aC w q L gF o v10 b (.str t) (dk (t++t)) (.list (nums ((List.range 12).map (cX (t++t))))) (.list ((AR (cX (t++t))).map λ g=> .list (nums g))) (.list (nums (hM (cX (t++t)) 12))) .aC) s (sS (cX (t++t))):=Ev.tuple (cF.cons rfl aB (cF.cons rfl aB (cF.cons rfl aB (cF.one rfl λ K k=>k))));refine C _ (cz (a:=false) (aF (Option.map (!·)) (F4 (cX (t++t)))) (ei ?_));exact h s _ (((u.trans c).trans U).trans N)
def JX{T:aj}(G:T.length=24)(p:Nat):(vR T p).length<=24:=aa (aa (av _ _) (uW (T.drop p))) (by rw[fk,G];exact iK _ _)
def JY{T:aj}(G:T.length=24){F:Nat->Nat}(n:Nat):∀p,(kE T F n p).length<=24*n:=by induction n with
 |zero=>exact λ p=>ah _|succ n z=>intro p;refine(?_:(vR T p++kE T F n (F p)).length<=_);rw[bH,Nat.mul_succ,eO];exact dS (z _) (JX G p)
def CS{T:aj}{p:Nat}:∀c∈vR T p,c∈T:=λ c w=>List.mem_of_mem_drop (JQ _ c w)
def JZ{T:aj}{F:Nat->Nat}(n:Nat):∀p,∀c∈kE T F n p,c∈T:=by induction n with
 |zero=>exact λ p c w=>absurd w ck|succ n z=>exact λ p c w=>(bK.mp w).elim (CS c) (z _ c)
def F5{P:List Pr}(U:∀x∈P,Good x){w:aj}{j n:Nat}(g:w.filter jb=seg (P.map sgn) j n)(H:∀c∈w,c∈P.map sgn):Tells w (((P.map λ x=>fg x.2).drop j).take n):=by obtain⟨M,N⟩:=JO ((P.drop j).take n) λ x L=>U x (List.mem_of_mem_drop (List.mem_of_mem_take L));rw[List.map_take,List.map_drop]at M N;refine⟨?_,λ c p=> ?_,?_⟩;rw[g];rw[List.map_take,List.map_drop]at M;exact M;obtain⟨x,L,rfl⟩:=bV.mp (H c p);exact(U x L).l;exact N
def J0{α:Type}(a:List α)(x:α):idx (a++[x]) (-1)=some x:=by
 have e:((-1:Int)+((a++[x]).length:Int)).toNat=a.length:=by rw[gJ,Int.natCast_add,Int.add_comm];exact aF Int.toNat (Int.add_neg_cancel_right (a.length:Int) 1)
 unfold idx;rw[au dD,ar (af (by rw[gJ];exact Int.neg_le_neg (gb.mpr (gK (cI a.length))))),e];exact List.getElem?_concat_length
def Mt{T:aj}(h:eV T){j:Nat}(l:j<12):cL T j-j<=20:=by
 have i:cL T j<=24:=iK _ _;by_cases t:j<=8;apply aa (iK _ _);rcases h.Sy t with⟨D,e⟩|e|e;exact aa e dD;exact e▸by decide
 exact e▸by decide
 exact aa (Nat.sub_le_sub_left (Nat.lt_of_not_le t) _) (aa (Nat.sub_le_sub_right i 9) dD)
def J1(H:Hd J){T E:aj}(u:eV T)(M:E.length=24)(tells:∀{w:aj}{j n:Nat},w.filter jb=seg T j n->(∀c∈w,c∈T)->Tells w ((E.drop j).take n)){i v2 p r L A o v10 Q N x m e:V}(K:fA)(k:∀σ',Ext Y σ'->K (.list ((List.range 12).map λ D=>V.bool true)) σ'):wE J pg (d+5) (.comp false (.call (.bT 47) [.sub (.sub (.var 15) (.var 14)) (.lit (.int 1)),.slice (.var 20) (some (.var 14)) (some (.sub (.sub (.var 15) (.var 14)) (.lit (.int 0))))] [] []) [14] (.range 17 [.lit (.int 12)]) []) K (LF i v2 .aC p r L A o v10 Q N (dk T) x m e (.list (nums E))) Y:=by have G:=u.len;refine ym (λ k:Nat=>V.int (k:Int)) (vi:= .it false (nums (List.range 12))) (l:=List.range 12) (g:=λ D=>True) (Ev.range (n:=12) rfl aB dD) rfl (λ D=>V.bool true) (Ext Y) (.refl Y) (λ D D=>trivial) (λ j t z σ' ex h=> ?_) dD λ U I=>k U I;have t:=dY.mp t;obtain⟨g1,g2,g3⟩:=DW G (fz t dD);have s:Ev J (d+5) (.sub (.var 15) (.var 14)) ((LF i v2 .aC p r L A o v10 Q N (dk T) x m e (.list (nums E))).set 14 (.int (j:Int))) σ' (la T j):=Ev.sub (va:=dk T) (vb:= .int (j:Int)) aB aB (qR t);refine fh (a:=jA) aB (lE (vs:=[.str (vR T j),.list (nums ((E.drop j).take (cL T j-j)))]) (cF.cons rfl (Ev.sub (va:=la T j) (vb:= .int 1) s aB rfl) (cF.one rfl ?_)) ?_);refine k9 (v:= .list (nums E)) (a:=j) (b:=cL T j-j) rfl aB (λ K q=>c9 aB q) (λ K q=>c9 (n:=(j:Int)+((cL T j-j:Nat):Int)) (λ K k=> ?_) q) (by rw[M];exact bo (fz t dD)) (by rw[M];decide) rfl;rw[<-Int.natCast_add,oK g1]at k;exact Cu (Ev.sub (va:=la T j) (vb:= .int 0) s aB rfl) k;exact rL (d:=d+1) H (tells (pX G (bo (fz t dD))) CS) (aa g3 dD) (aa (List.length_take_le _ _) (Mt u t)) λ y C=>h _ (ex.trans C)
def SJ(H:Hd J){T E:aj}(u:eV T)(M:E.length=24)(tells:∀{w:aj}{j n:Nat},w.filter jb=seg T j n->(∀c∈w,c∈T)->Tells w ((E.drop j).take n)){n s:Nat}(R:Ring T n s)(C:s<12){h v2 p l L A o v10 r N m x:V}(Q:iQ Y x (.int (-1))=some (.int (s:Int)))(U:x≠.aC):wSs J pg (d+5) (gE.drop 17) (c7 λ v D=>v= .bool true) (LF h v2 .aC p l L A o v10 r N (dk T) (.list (nums ((List.range 12).map (cX T)))) m x (.list (nums E))) Y:=by
 have G:=u.len;refine bW (v:= .int (s:Int)) (Ev.sub (va:=x) (vb:= .int (-1)) (qK rfl U) aB Q) ?_;have hlen:(vR T s++kE T (cX T) n (cX T s)).length<=240:=by rw[bH];exact aa (dS (JX G s) (aa (JY G n _) (iH 24 R.nm))) dD
 refine DM (fh (a:=jA) aB (A3 rfl (fh (a:=mw) aB (lE (vs:=[.int (s:Int),.list (nums ((List.range 12).map (cX T))),dk T]) (cF.cons rfl aB (cF.cons rfl aB (cF.one rfl λ K k=>k))) ?_))));refine AP (d:=d+4) H C (u3 T) R.e (λ i hi e=> ?_) (aa hlen dD) ?_;have:=R.lo i hi;rw[e]at this;exact absurd this (R.hs.elim (λ q=>by rw[q];decide) (λ q=>by rw[q];decide));refine lE (vs:=[.list (nums ((E.drop s).take 12))]) (cF.one rfl (k9 (v:= .list (nums E)) (a:=s) (b:=12) rfl aB (λ K q=>c9 aB q) (λ K q=>c9 (Ev.bin (va:= .int (s:Int)) (vb:= .int ((12:Nat):Int)) aB aB rfl) q) (by rw[M];exact bo (fz C dD)) (by rw[M];decide) rfl)) ?_;exact rL (d:=d+1) H (tells R.c λ c t=>(bK.mp t).elim (CS c) (JZ n _ c)) (aa hlen dD) (aa (List.length_take_le _ _) dD) λ z I=>rfl
def SK(H:Hd J){T E:aj}(u:eV T)(M:E.length=24)(tells:∀{w:aj}{j n:Nat},w.filter jb=seg T j n->(∀c∈w,c∈T)->Tells w ((E.drop j).take n)){k v2 p Q L A o v10 x N m:V}:wSs J pg (d+5) (gE.drop 16) (c7 λ v D=>v= .bool true) (LF k v2 .aC p Q L A o v10 x N (dk T) (.list (nums ((List.range 12).map (cX T)))) m (.list (nums (hM (cX T) 12))) (.list (nums E))) Y:=by
 obtain⟨n,s,R⟩:=SE u;obtain⟨l,I⟩:=F0 u R;have C:s<12:=R.hs.elim (·▸by decide) (·▸by decide);have r:∀Y:Mem,iQ Y (.list (nums (hM (cX T) 12))) (.int (-1))=some (.int (s:Int)):=λ Y=>by have q:=D4 (cX T) 12;rw[I]at q⊢;refine(?_:(if decide ((nums (l++[s])).length<=1000000)then idx (nums (l++[s])) (-1)else none)=_);rw[ar (af (by rw[bh];exact aa q dD)),<-kC];exact J0 _ _
 have i:V.list (nums (hM (cX T) 12))≠.aC:=vn;generalize V.list (nums (hM (cX T) 12))=e at r i⊢;refine yz (pP (Cu (v:= .bool false) aB ?_));refine J1 H u M tells _ λ b G=> ?_;refine cz (a:=false) rfl (ei ?_);exact SJ H u M tells R C (r b) i
def J2{a:Nat->Nat}{t:Nat}(C:∀i,a i<8){w:aj}{j n:Nat}(M:w.filter jb=seg (TT t a) j n)(N:∀c∈w,c∈TT t a):Tells w ((((kL a).map fg++(kL a).map fg).drop j).take n):=by have I:TT t a=(pL t a++pL t a).map sgn:=eG.symm;have u:(pL t a++pL t a).map (λ x=>fg x.2)=(kL a).map fg++(kL a).map fg:=eG;rw[I]at M N;have:=F5 (λ x L=>(bK.mp L).elim (yP t C x) (yP t C x)) M N;rw[u]at this;exact this
def SM(H:Hd J){a:Nat->Nat}{t:Nat}(C:∀i,a i<8){k v2 w j p q v10 l N m:V}:wSs J pg (d+5) (gE.drop 15) (c7 λ v D=>v= .bool true) (LF k v2 .aC w j (.list (nums ((kL a).map fg))) p q v10 l N (dk (TT t a)) (.list (nums ((List.range 12).map (cX (TT t a))))) m (.list (nums (hM (cX (TT t a)) 12))) .aC) Y:=by refine bW (v:= .list (nums ((kL a).map fg++(kL a).map fg))) (Ev.bin (va:= .list (nums ((kL a).map fg))) (vb:= .list (nums ((kL a).map fg))) aB aB (add_list (by exact(by decide:24<=1000000)))) ?_;exact SK H (JV t a) rfl (J2 C)
def PO(H:A9 J){ns:List Int}(p:ns.length<=63):aJ J (d+20) (.glob uJ) [.list (ns.map .int)] [] [] (λ v D=>v= .bool true) Y:=by apply IW H.hd _;refine(?_:wSs J pg (d+19) (gE.take 7++gE.drop 7) _ _ _);refine SF H.hd p λ a t v2 C=> ?_;refine(?_:wSs J pg (d+19) ((gE.drop 7).take 3++gE.drop 10) _ _ _);refine SH (d:=d+15) H.hd C λ l j G=> ?_;refine(?_:wSs J pg (d+19) ((gE.drop 10).take 5++gE.drop 15) _ _ _);refine SI (d:=d+14) H (t:=tL t a) rfl λ T m i=> ?_;exact SM (d:=d+14) H.hd C
def SN:PySem.Challenge.rw_qh0029_01.wellSaid=true:=by kernel_rfl
noncomputable abbrev Zg:RowW:=PySem.Challenge.rw_qh0029_01.row.toRowW
def Mv:∀ns:List Int,ns.length<=63->∀J,A9 J->aJ J 60 (.glob uJ) [.list (ns.map .int)] [] [] (λ v D=>v= .bool true) O1:=λ ns p J H=>PO (d:=40) H p
set_option maxHeartbeats 0 in
set_option tactic.hygienic true in
def T1:PySem.Challenge.rw_qh0029_01.Holds:=by
 refine holds_law SN λ V0=> ?_;refine PySem.W.holds_open (q:=Qf) (loose:=Ge) (Xt:=λ s=>xlAt Qf [] s&&recOk (RowW.records Zg) s) (XP:=XL Qf []) (Yf:=Hook.obs HK) (Ya:=Hook.val HK) (YP:=Hook.says HK) (N:=4540) Qg (Hook.of HK) (Hook.keeps HK) (λ s e=>xl_of s (Bool.and_eq_true_iff.mp e).1) XL.keeps (by rfl) (by rfl) (by rfl) (λ s e=>recFacts_of (Bool.and_eq_true_iff.mp e).2) (by rfl) V0 (by decide+kernel) ⟨rfl,rfl,rfl,rfl,rfl,by decide+kernel⟩ ?hw ?hc
 case hw=>w_witness2
 case hc=>
  w_strict (
      k_fill
      intro w fR aq mg mb G Y fa o pm cd doc dV kV ho hd Zx hD Vh hg args vals as V3 V4 PH Tt Zh
      have KX:=km_in_of Y
      km_tabs Y
      refine Ground.open G ?_
      intro T B D TE TW
      wrow_args V3 V4 PH Tt Zh
      refine enter_call ?_
      rename_i ns _ _ _ _ _ _ _ _ _ _ _ _ hw _ _ _ hn _
      refine codeAny_mono (Mine.LQ (K:=hp w.params) rfl KX (hT8 266 (by simp)) T.g T.b T.builtins T.bmain Vh hg hw (Mine.Mv ns (by omega))) ?_
      intro r s' hr
      obtain⟨rfl,h1,h2,h3⟩:=hr
      refine⟨.inl ⟨_,_,[],rfl,?_,ReadsW.bool true,?_,λ _=>⟨List.nodup_nil,λ _ hm=>(mn hm)⟩⟩,h1,h2,AllBare.of_eq h3⟩
      ·intro cls;rfl
      ·kernel_rfl)
end
end Mine
theorem PySem.Challenge.cw_qh0029_01_holds : PySem.Challenge.rw_qh0029_01.Holds :=
 Mine.T1
