import PyProof.Rows.All
import Wide.All
import OpenK.AllK
import Wide.FinOn
import KE.KRevSl
import KE.KSortAsk
import KE.KSortTup
import KE.KSortKey
import KE.KLam
import PyProof.ZipIter
import KE.KDictIter
import PySem.Challenge.RW_qw0037_02
set_option Elab.async false
set_option maxRecDepth 100000
namespace Mine
open PySem PySem.W PyProof.Rows
inductive TokP (p : PySem.Program) : Prop where
  | mk : TokP p
noncomputable def pickG (G : Str → Str → Str → Str → Str → Str → Str → Str → Str → Str → Str → Str → Str → Str → Str → Str → Str → Str → Str → Str → Str → Str → Str → Str → Str → Str → Str → Str → Str → Str → Str → Str → Str → Str → Str → Str → Str → Str → Str → Str → Str → Str → Str → Str → Str → Str → Str → Str → Str → Str → Str → Str → Str → Str → Str → Str → Str → Str → Str → Str → Str → Str → Str → Str → Str → Str → Str → Str → Str → Str → Str → Str → Str → Str → Str → Str → Str → Str → Str → Str → Str → Str → Str → Str → Str → Str → Str → Str → Str → Str → Str → Str → Str → Str → Str → Str → Str → Str → Str → Str → Str → Str → Str → Str → Str → Str → Str → Str → Str → Str → Str → Str → Str → Str → Str → Str → Str → Str → Str → Str → Str → Str → Str → Str → Str → Str → Str → Str → Str → Str → Str → Str → Str → Str → Str → Str → Str → Str → Str → Str → Str → Str → Str → Str → Str → Str → Str → Str → Str → Str → Str → Str → Str → Str → Str → Str → Str → Str → Str → Str → Str → Str → Str → Str → Str → Str → Str → Str → Str → Str → Str → Str → Str → Str → Str → Str → Str → Str → Str → Str → PySem.Program) (_ : TokP (G (Str.ofString "_law_values") (Str.ofString "numbers") (Str.ofString "lack") (Str.ofString "values") (Str.ofString "x") (Str.ofString "k") (Str.ofString "range") (Str.ofString "append") (Str.ofString "len") (Str.ofString "_law_octets") (Str.ofString "octets") (Str.ofString "number") (Str.ofString "value") (Str.ofString "extend") (Str.ofString "bytes") (Str.ofString "_law_counts") (Str.ofString "twos") (Str.ofString ".0") (Str.ofString "heads") (Str.ofString "int") (Str.ofString "count") (Str.ofString "fast") (Str.ofString "_law_cost") (Str.ofString "counts") (Str.ofString "pair") (Str.ofString "many") (Str.ofString "behind") (Str.ofString "more") (Str.ofString "find") (Str.ofString "ends") (Str.ofString "dots") (Str.ofString "j") (Str.ofString "law") (Str.ofString "script") (Str.ofString "sum") (Str.ofString "row") (Str.ofString "signs") (Str.ofString "pairs") (Str.ofString "first") (Str.ofString "second") (Str.ofString "lengths") (Str.ofString "costs") (Str.ofString "sent") (Str.ofString "quotedata") (Str.ofString "") (Str.ofString "join") (Str.ofString "chr") (Str.ofString "octet") (Str.ofString "b64encode") (Str.ofString "back") (Str.ofString "b64decode") (Str.ofString "places") (Str.ofString "list") (Str.ofString "rising") (Str.ofString "sorted") (Str.ofString "key") (Str.ofString "place") (Str.ofString "falling") (Str.ofString "reverse") (Str.ofString "nsmallest") (Str.ofString "nlargest") (Str.ofString "_twin_re_1") (Str.ofString "_sre") (Str.ofString "compile") (Str.ofString "(?m)^\\.") (Str.ofString "_twin_re_2") (Str.ofString "(?:\\r\\n|\\n|\\r(?!\\n))") (Str.ofString "CRLF") (Str.ofString "\x0d\n") (Str.ofString "data") (Str.ofString "sub") (Str.ofString "..") (Str.ofString "__name__") (Str.ofString "law_qw0037_02") (Str.ofString "_siftdown_max") (Str.ofString "heap") (Str.ofString "startpos") (Str.ofString "pos") (Str.ofString "newitem") (Str.ofString "parentpos") (Str.ofString "parent") (Str.ofString "_siftup_max") (Str.ofString "endpos") (Str.ofString "childpos") (Str.ofString "rightpos") (Str.ofString "n") (Str.ofString "iterable") (Str.ofString "it") (Str.ofString "iter") (Str.ofString "sentinel") (Str.ofString "object") (Str.ofString "result") (Str.ofString "min") (Str.ofString "default") (Str.ofString "size") (Str.ofString "TypeError") (Str.ofString "AttributeError") (Str.ofString "elem") (Str.ofString "i") (Str.ofString "zip") (Str.ofString "_heapify_max") (Str.ofString "top") (Str.ofString "order") (Str.ofString "_heapreplace") (Str.ofString "_heapreplace_max") (Str.ofString "_order") (Str.ofString "sort") (Str.ofString "_elem") (Str.ofString "max") (Str.ofString "heapify") (Str.ofString "heapreplace") (Str.ofString "cpy313.smtplib") (Str.ofString "reversed") (Str.ofString "_siftup") (Str.ofString "item") (Str.ofString "returnitem") (Str.ofString "_siftdown") (Str.ofString "cpy313.base64") (Str.ofString "s") (Str.ofString "altchars") (Str.ofString "encoded") (Str.ofString "b2a_base64") (Str.ofString "newline") (Str.ofString "repr") (Str.ofString "translate") (Str.ofString "maketrans") (Str.ofString "validate") (Str.ofString "_bytes_from_decode_data") (Str.ofString "a2b_base64") (Str.ofString "strict_mode") (Str.ofString "cpy313.heapq") (Str.ofString "_truth") (Str.ofString "t") (Str.ofString "type") (Str.ofString "bool") (Str.ofString "float") (Str.ofString "complex") (Str.ofString "str") (Str.ofString "bytearray") (Str.ofString "tuple") (Str.ofString "dict") (Str.ofString "set") (Str.ofString "frozenset") (Str.ofString "_wall") (Str.ofString "_B64") (Str.ofString "_b64_value") (Str.ofString "c") (Str.ofString "ascii_data") (Str.ofString "_ascii_buffer") (Str.ofString "out") (Str.ofString "quad_pos") (Str.ofString "leftchar") (Str.ofString "pads") (Str.ofString "this_ch") (Str.ofString "Error") (Str.ofString "Leading padding not allowed") (Str.ofString "Excess padding not allowed") (Str.ofString "Only base64 data is allowed") (Str.ofString "Excess data after padding") (Str.ofString "Discontinuous padding not allowed") (Str.ofString "Invalid base64-encoded string: number of data characters (%d) cannot be 1 more than a multiple of 4") (Str.ofString "Incorrect padding") (Str.ofString "bin_data") (Str.ofString "_buffer") (Str.ofString "leftbits") (Str.ofString "b") (Str.ofString "isinstance") (Str.ofString "encode") (Str.ofString "ascii") (Str.ofString "UnicodeEncodeError") (Str.ofString "ValueError") (Str.ofString "string argument should contain only ASCII characters") (Str.ofString "bytes_types") (Str.ofString "memoryview") (Str.ofString "tobytes") (Str.ofString "argument should be a bytes-like object or ASCII string, not %r") (Str.ofString "__class__") (Str.ofString "binascii") (Str.ofString "isascii") (Str.ofString "/claim/cut.py"))) : Str → Str → Str → Str → Str → Str → Str → Str → Str → Str → Str → Str → Str → Str → Str → Str → Str → Str → Str → Str → Str → Str → Str → Str → Str → Str → Str → Str → Str → Str → Str → Str → Str → Str → Str → Str → Str → Str → Str → Str → Str → Str → Str → Str → Str → Str → Str → Str → Str → Str → Str → Str → Str → Str → Str → Str → Str → Str → Str → Str → Str → Str → Str → Str → Str → Str → Str → Str → Str → Str → Str → Str → Str → Str → Str → Str → Str → Str → Str → Str → Str → Str → Str → Str → Str → Str → Str → Str → Str → Str → Str → Str → Str → Str → Str → Str → Str → Str → Str → Str → Str → Str → Str → Str → Str → Str → Str → Str → Str → Str → Str → Str → Str → Str → Str → Str → Str → Str → Str → Str → Str → Str → Str → Str → Str → Str → Str → Str → Str → Str → Str → Str → Str → Str → Str → Str → Str → Str → Str → Str → Str → Str → Str → Str → Str → Str → Str → Str → Str → Str → Str → Str → Str → Str → Str → Str → Str → Str → Str → Str → Str → Str → Str → Str → Str → Str → Str → Str → Str → Str → Str → Str → Str → Str → Str → Str → Str → Str → Str → Str → PySem.Program := G
set_option maxHeartbeats 0 in
noncomputable def pwG : Str → Str → Str → Str → Str → Str → Str → Str → Str → Str → Str → Str → Str → Str → Str → Str → Str → Str → Str → Str → Str → Str → Str → Str → Str → Str → Str → Str → Str → Str → Str → Str → Str → Str → Str → Str → Str → Str → Str → Str → Str → Str → Str → Str → Str → Str → Str → Str → Str → Str → Str → Str → Str → Str → Str → Str → Str → Str → Str → Str → Str → Str → Str → Str → Str → Str → Str → Str → Str → Str → Str → Str → Str → Str → Str → Str → Str → Str → Str → Str → Str → Str → Str → Str → Str → Str → Str → Str → Str → Str → Str → Str → Str → Str → Str → Str → Str → Str → Str → Str → Str → Str → Str → Str → Str → Str → Str → Str → Str → Str → Str → Str → Str → Str → Str → Str → Str → Str → Str → Str → Str → Str → Str → Str → Str → Str → Str → Str → Str → Str → Str → Str → Str → Str → Str → Str → Str → Str → Str → Str → Str → Str → Str → Str → Str → Str → Str → Str → Str → Str → Str → Str → Str → Str → Str → Str → Str → Str → Str → Str → Str → Str → Str → Str → Str → Str → Str → Str → Str → Str → Str → Str → Str → Str → Str → Str → Str → Str → Str → Str → PySem.Program := by
  refine' pickG _ ?t
  case t =>
  have t : TokP PySem.Challenge.pw_qw0037_02 := .mk
  delta PySem.Challenge.pw_qw0037_02 at t
  iterate 180 generalize Str.ofString _ = y at t ⊢
  exact t
noncomputable def pwB : PySem.Program := pwG ⟨⟨[95, 108, 97, 119, 95, 118, 97, 108, 117, 101, 115]⟩⟩ ⟨⟨[110, 117, 109, 98, 101, 114, 115]⟩⟩ ⟨⟨[108, 97, 99, 107]⟩⟩ ⟨⟨[118, 97, 108, 117, 101, 115]⟩⟩ ⟨⟨[120]⟩⟩ ⟨⟨[107]⟩⟩ ⟨⟨[114, 97, 110, 103, 101]⟩⟩ ⟨⟨[97, 112, 112, 101, 110, 100]⟩⟩ ⟨⟨[108, 101, 110]⟩⟩ ⟨⟨[95, 108, 97, 119, 95, 111, 99, 116, 101, 116, 115]⟩⟩ ⟨⟨[111, 99, 116, 101, 116, 115]⟩⟩ ⟨⟨[110, 117, 109, 98, 101, 114]⟩⟩ ⟨⟨[118, 97, 108, 117, 101]⟩⟩ ⟨⟨[101, 120, 116, 101, 110, 100]⟩⟩ ⟨⟨[98, 121, 116, 101, 115]⟩⟩ ⟨⟨[95, 108, 97, 119, 95, 99, 111, 117, 110, 116, 115]⟩⟩ ⟨⟨[116, 119, 111, 115]⟩⟩ ⟨⟨[46, 48]⟩⟩ ⟨⟨[104, 101, 97, 100, 115]⟩⟩ ⟨⟨[105, 110, 116]⟩⟩ ⟨⟨[99, 111, 117, 110, 116]⟩⟩ ⟨⟨[102, 97, 115, 116]⟩⟩ ⟨⟨[95, 108, 97, 119, 95, 99, 111, 115, 116]⟩⟩ ⟨⟨[99, 111, 117, 110, 116, 115]⟩⟩ ⟨⟨[112, 97, 105, 114]⟩⟩ ⟨⟨[109, 97, 110, 121]⟩⟩ ⟨⟨[98, 101, 104, 105, 110, 100]⟩⟩ ⟨⟨[109, 111, 114, 101]⟩⟩ ⟨⟨[102, 105, 110, 100]⟩⟩ ⟨⟨[101, 110, 100, 115]⟩⟩ ⟨⟨[100, 111, 116, 115]⟩⟩ ⟨⟨[106]⟩⟩ ⟨⟨[108, 97, 119]⟩⟩ ⟨⟨[115, 99, 114, 105, 112, 116]⟩⟩ ⟨⟨[115, 117, 109]⟩⟩ ⟨⟨[114, 111, 119]⟩⟩ ⟨⟨[115, 105, 103, 110, 115]⟩⟩ ⟨⟨[112, 97, 105, 114, 115]⟩⟩ ⟨⟨[102, 105, 114, 115, 116]⟩⟩ ⟨⟨[115, 101, 99, 111, 110, 100]⟩⟩ ⟨⟨[108, 101, 110, 103, 116, 104, 115]⟩⟩ ⟨⟨[99, 111, 115, 116, 115]⟩⟩ ⟨⟨[115, 101, 110, 116]⟩⟩ ⟨⟨[113, 117, 111, 116, 101, 100, 97, 116, 97]⟩⟩ ⟨⟨[]⟩⟩ ⟨⟨[106, 111, 105, 110]⟩⟩ ⟨⟨[99, 104, 114]⟩⟩ ⟨⟨[111, 99, 116, 101, 116]⟩⟩ ⟨⟨[98, 54, 52, 101, 110, 99, 111, 100, 101]⟩⟩ ⟨⟨[98, 97, 99, 107]⟩⟩ ⟨⟨[98, 54, 52, 100, 101, 99, 111, 100, 101]⟩⟩ ⟨⟨[112, 108, 97, 99, 101, 115]⟩⟩ ⟨⟨[108, 105, 115, 116]⟩⟩ ⟨⟨[114, 105, 115, 105, 110, 103]⟩⟩ ⟨⟨[115, 111, 114, 116, 101, 100]⟩⟩ ⟨⟨[107, 101, 121]⟩⟩ ⟨⟨[112, 108, 97, 99, 101]⟩⟩ ⟨⟨[102, 97, 108, 108, 105, 110, 103]⟩⟩ ⟨⟨[114, 101, 118, 101, 114, 115, 101]⟩⟩ ⟨⟨[110, 115, 109, 97, 108, 108, 101, 115, 116]⟩⟩ ⟨⟨[110, 108, 97, 114, 103, 101, 115, 116]⟩⟩ ⟨⟨[95, 116, 119, 105, 110, 95, 114, 101, 95, 49]⟩⟩ ⟨⟨[95, 115, 114, 101]⟩⟩ ⟨⟨[99, 111, 109, 112, 105, 108, 101]⟩⟩ ⟨⟨[40, 63, 109, 41, 94, 92, 46]⟩⟩ ⟨⟨[95, 116, 119, 105, 110, 95, 114, 101, 95, 50]⟩⟩ ⟨⟨[40, 63, 58, 92, 114, 92, 110, 124, 92, 110, 124, 92, 114, 40, 63, 33, 92, 110, 41, 41]⟩⟩ ⟨⟨[67, 82, 76, 70]⟩⟩ ⟨⟨[13, 10]⟩⟩ ⟨⟨[100, 97, 116, 97]⟩⟩ ⟨⟨[115, 117, 98]⟩⟩ ⟨⟨[46, 46]⟩⟩ ⟨⟨[95, 95, 110, 97, 109, 101, 95, 95]⟩⟩ ⟨⟨[108, 97, 119, 95, 113, 119, 48, 48, 51, 55, 95, 48, 50]⟩⟩ ⟨⟨[95, 115, 105, 102, 116, 100, 111, 119, 110, 95, 109, 97, 120]⟩⟩ ⟨⟨[104, 101, 97, 112]⟩⟩ ⟨⟨[115, 116, 97, 114, 116, 112, 111, 115]⟩⟩ ⟨⟨[112, 111, 115]⟩⟩ ⟨⟨[110, 101, 119, 105, 116, 101, 109]⟩⟩ ⟨⟨[112, 97, 114, 101, 110, 116, 112, 111, 115]⟩⟩ ⟨⟨[112, 97, 114, 101, 110, 116]⟩⟩ ⟨⟨[95, 115, 105, 102, 116, 117, 112, 95, 109, 97, 120]⟩⟩ ⟨⟨[101, 110, 100, 112, 111, 115]⟩⟩ ⟨⟨[99, 104, 105, 108, 100, 112, 111, 115]⟩⟩ ⟨⟨[114, 105, 103, 104, 116, 112, 111, 115]⟩⟩ ⟨⟨[110]⟩⟩ ⟨⟨[105, 116, 101, 114, 97, 98, 108, 101]⟩⟩ ⟨⟨[105, 116]⟩⟩ ⟨⟨[105, 116, 101, 114]⟩⟩ ⟨⟨[115, 101, 110, 116, 105, 110, 101, 108]⟩⟩ ⟨⟨[111, 98, 106, 101, 99, 116]⟩⟩ ⟨⟨[114, 101, 115, 117, 108, 116]⟩⟩ ⟨⟨[109, 105, 110]⟩⟩ ⟨⟨[100, 101, 102, 97, 117, 108, 116]⟩⟩ ⟨⟨[115, 105, 122, 101]⟩⟩ ⟨⟨[84, 121, 112, 101, 69, 114, 114, 111, 114]⟩⟩ ⟨⟨[65, 116, 116, 114, 105, 98, 117, 116, 101, 69, 114, 114, 111, 114]⟩⟩ ⟨⟨[101, 108, 101, 109]⟩⟩ ⟨⟨[105]⟩⟩ ⟨⟨[122, 105, 112]⟩⟩ ⟨⟨[95, 104, 101, 97, 112, 105, 102, 121, 95, 109, 97, 120]⟩⟩ ⟨⟨[116, 111, 112]⟩⟩ ⟨⟨[111, 114, 100, 101, 114]⟩⟩ ⟨⟨[95, 104, 101, 97, 112, 114, 101, 112, 108, 97, 99, 101]⟩⟩ ⟨⟨[95, 104, 101, 97, 112, 114, 101, 112, 108, 97, 99, 101, 95, 109, 97, 120]⟩⟩ ⟨⟨[95, 111, 114, 100, 101, 114]⟩⟩ ⟨⟨[115, 111, 114, 116]⟩⟩ ⟨⟨[95, 101, 108, 101, 109]⟩⟩ ⟨⟨[109, 97, 120]⟩⟩ ⟨⟨[104, 101, 97, 112, 105, 102, 121]⟩⟩ ⟨⟨[104, 101, 97, 112, 114, 101, 112, 108, 97, 99, 101]⟩⟩ ⟨⟨[99, 112, 121, 51, 49, 51, 46, 115, 109, 116, 112, 108, 105, 98]⟩⟩ ⟨⟨[114, 101, 118, 101, 114, 115, 101, 100]⟩⟩ ⟨⟨[95, 115, 105, 102, 116, 117, 112]⟩⟩ ⟨⟨[105, 116, 101, 109]⟩⟩ ⟨⟨[114, 101, 116, 117, 114, 110, 105, 116, 101, 109]⟩⟩ ⟨⟨[95, 115, 105, 102, 116, 100, 111, 119, 110]⟩⟩ ⟨⟨[99, 112, 121, 51, 49, 51, 46, 98, 97, 115, 101, 54, 52]⟩⟩ ⟨⟨[115]⟩⟩ ⟨⟨[97, 108, 116, 99, 104, 97, 114, 115]⟩⟩ ⟨⟨[101, 110, 99, 111, 100, 101, 100]⟩⟩ ⟨⟨[98, 50, 97, 95, 98, 97, 115, 101, 54, 52]⟩⟩ ⟨⟨[110, 101, 119, 108, 105, 110, 101]⟩⟩ ⟨⟨[114, 101, 112, 114]⟩⟩ ⟨⟨[116, 114, 97, 110, 115, 108, 97, 116, 101]⟩⟩ ⟨⟨[109, 97, 107, 101, 116, 114, 97, 110, 115]⟩⟩ ⟨⟨[118, 97, 108, 105, 100, 97, 116, 101]⟩⟩ ⟨⟨[95, 98, 121, 116, 101, 115, 95, 102, 114, 111, 109, 95, 100, 101, 99, 111, 100, 101, 95, 100, 97, 116, 97]⟩⟩ ⟨⟨[97, 50, 98, 95, 98, 97, 115, 101, 54, 52]⟩⟩ ⟨⟨[115, 116, 114, 105, 99, 116, 95, 109, 111, 100, 101]⟩⟩ ⟨⟨[99, 112, 121, 51, 49, 51, 46, 104, 101, 97, 112, 113]⟩⟩ ⟨⟨[95, 116, 114, 117, 116, 104]⟩⟩ ⟨⟨[116]⟩⟩ ⟨⟨[116, 121, 112, 101]⟩⟩ ⟨⟨[98, 111, 111, 108]⟩⟩ ⟨⟨[102, 108, 111, 97, 116]⟩⟩ ⟨⟨[99, 111, 109, 112, 108, 101, 120]⟩⟩ ⟨⟨[115, 116, 114]⟩⟩ ⟨⟨[98, 121, 116, 101, 97, 114, 114, 97, 121]⟩⟩ ⟨⟨[116, 117, 112, 108, 101]⟩⟩ ⟨⟨[100, 105, 99, 116]⟩⟩ ⟨⟨[115, 101, 116]⟩⟩ ⟨⟨[102, 114, 111, 122, 101, 110, 115, 101, 116]⟩⟩ ⟨⟨[95, 119, 97, 108, 108]⟩⟩ ⟨⟨[95, 66, 54, 52]⟩⟩ ⟨⟨[95, 98, 54, 52, 95, 118, 97, 108, 117, 101]⟩⟩ ⟨⟨[99]⟩⟩ ⟨⟨[97, 115, 99, 105, 105, 95, 100, 97, 116, 97]⟩⟩ ⟨⟨[95, 97, 115, 99, 105, 105, 95, 98, 117, 102, 102, 101, 114]⟩⟩ ⟨⟨[111, 117, 116]⟩⟩ ⟨⟨[113, 117, 97, 100, 95, 112, 111, 115]⟩⟩ ⟨⟨[108, 101, 102, 116, 99, 104, 97, 114]⟩⟩ ⟨⟨[112, 97, 100, 115]⟩⟩ ⟨⟨[116, 104, 105, 115, 95, 99, 104]⟩⟩ ⟨⟨[69, 114, 114, 111, 114]⟩⟩ ⟨⟨[76, 101, 97, 100, 105, 110, 103, 32, 112, 97, 100, 100, 105, 110, 103, 32, 110, 111, 116, 32, 97, 108, 108, 111, 119, 101, 100]⟩⟩ ⟨⟨[69, 120, 99, 101, 115, 115, 32, 112, 97, 100, 100, 105, 110, 103, 32, 110, 111, 116, 32, 97, 108, 108, 111, 119, 101, 100]⟩⟩ ⟨⟨[79, 110, 108, 121, 32, 98, 97, 115, 101, 54, 52, 32, 100, 97, 116, 97, 32, 105, 115, 32, 97, 108, 108, 111, 119, 101, 100]⟩⟩ ⟨⟨[69, 120, 99, 101, 115, 115, 32, 100, 97, 116, 97, 32, 97, 102, 116, 101, 114, 32, 112, 97, 100, 100, 105, 110, 103]⟩⟩ ⟨⟨[68, 105, 115, 99, 111, 110, 116, 105, 110, 117, 111, 117, 115, 32, 112, 97, 100, 100, 105, 110, 103, 32, 110, 111, 116, 32, 97, 108, 108, 111, 119, 101, 100]⟩⟩ ⟨⟨[73, 110, 118, 97, 108, 105, 100, 32, 98, 97, 115, 101, 54, 52, 45, 101, 110, 99, 111, 100, 101, 100, 32, 115, 116, 114, 105, 110, 103, 58, 32, 110, 117, 109, 98, 101, 114, 32, 111, 102, 32, 100, 97, 116, 97, 32, 99, 104, 97, 114, 97, 99, 116, 101, 114, 115, 32, 40, 37, 100, 41, 32, 99, 97, 110, 110, 111, 116, 32, 98, 101, 32, 49, 32, 109, 111, 114, 101, 32, 116, 104, 97, 110, 32, 97, 32, 109, 117, 108, 116, 105, 112, 108, 101, 32, 111, 102, 32, 52]⟩⟩ ⟨⟨[73, 110, 99, 111, 114, 114, 101, 99, 116, 32, 112, 97, 100, 100, 105, 110, 103]⟩⟩ ⟨⟨[98, 105, 110, 95, 100, 97, 116, 97]⟩⟩ ⟨⟨[95, 98, 117, 102, 102, 101, 114]⟩⟩ ⟨⟨[108, 101, 102, 116, 98, 105, 116, 115]⟩⟩ ⟨⟨[98]⟩⟩ ⟨⟨[105, 115, 105, 110, 115, 116, 97, 110, 99, 101]⟩⟩ ⟨⟨[101, 110, 99, 111, 100, 101]⟩⟩ ⟨⟨[97, 115, 99, 105, 105]⟩⟩ ⟨⟨[85, 110, 105, 99, 111, 100, 101, 69, 110, 99, 111, 100, 101, 69, 114, 114, 111, 114]⟩⟩ ⟨⟨[86, 97, 108, 117, 101, 69, 114, 114, 111, 114]⟩⟩ ⟨⟨[115, 116, 114, 105, 110, 103, 32, 97, 114, 103, 117, 109, 101, 110, 116, 32, 115, 104, 111, 117, 108, 100, 32, 99, 111, 110, 116, 97, 105, 110, 32, 111, 110, 108, 121, 32, 65, 83, 67, 73, 73, 32, 99, 104, 97, 114, 97, 99, 116, 101, 114, 115]⟩⟩ ⟨⟨[98, 121, 116, 101, 115, 95, 116, 121, 112, 101, 115]⟩⟩ ⟨⟨[109, 101, 109, 111, 114, 121, 118, 105, 101, 119]⟩⟩ ⟨⟨[116, 111, 98, 121, 116, 101, 115]⟩⟩ ⟨⟨[97, 114, 103, 117, 109, 101, 110, 116, 32, 115, 104, 111, 117, 108, 100, 32, 98, 101, 32, 97, 32, 98, 121, 116, 101, 115, 45, 108, 105, 107, 101, 32, 111, 98, 106, 101, 99, 116, 32, 111, 114, 32, 65, 83, 67, 73, 73, 32, 115, 116, 114, 105, 110, 103, 44, 32, 110, 111, 116, 32, 37, 114]⟩⟩ ⟨⟨[95, 95, 99, 108, 97, 115, 115, 95, 95]⟩⟩ ⟨⟨[98, 105, 110, 97, 115, 99, 105, 105]⟩⟩ ⟨⟨[105, 115, 97, 115, 99, 105, 105]⟩⟩ ⟨⟨[47, 99, 108, 97, 105, 109, 47, 99, 117, 116, 46, 112, 121]⟩⟩
theorem pwB_eq : PySem.Challenge.pw_qw0037_02 = pwB := by kernel_rfl
set_option inductive.autoPromoteIndices false in
inductive IsP : PySem.Program → Prop where
  | mk (p : PySem.Program) : IsP p
set_option linter.defProp false in
def isB : IsP PySem.Challenge.pw_qw0037_02 := IsP.mk pwB
def pw2 : PySem.Program := IsP.casesOn (motive := fun _ _ => PySem.Program) isB fun p => p
def rw2 : PySem.W.OpenLaw :=
  { prog := pw2, name := (PySem.Str.ofString "law"), about := [(PySem.Str.ofString "b64encode")], foot := 5, most := some 63, bound := none, writes := false }
theorem rw_eq : PySem.Challenge.rw_qw0037_02 = rw2 := by
  show PySem.W.OpenLaw.mk _ _ _ _ _ _ _ = PySem.W.OpenLaw.mk _ _ _ _ _ _ _
  rw [show pw2 = PySem.Challenge.pw_qw0037_02 by kernel_rfl]
end Mine

namespace Mine
open PySem PySem.W PyProof.Rows
set_option maxHeartbeats 0
/-- the head below looks at its own row without the given one's -/
theorem warm : True := by
  first
  | (have : (fun _ : PySem.Program => true) Mine.pw2 = true := by k_qdec
     trivial)
  | exact True.intro
open_top hd for Mine.rw2

end Mine
namespace Mine
open PySem PySem.W PyProof.Rows


theorem rv_lt {n i : Nat} (h : i < n) : n - 1 - i < n := Nat.lt_of_le_of_lt (Nat.sub_le ..) (Nat.sub_lt (Nat.lt_of_le_of_lt (Nat.zero_le _) h) Nat.one_pos)
theorem rv_rv {n i : Nat} (h : i < n) : n - 1 - (n - 1 - i) = i := Nat.sub_sub_self (Nat.le_sub_one_of_lt h)
theorem rv_anti {n i j : Nat} (h : i < j) (hj : j < n) : n - 1 - j < n - 1 - i := Nat.sub_lt_sub_left (Nat.lt_of_lt_of_le h (Nat.le_sub_one_of_lt hj)) h
theorem sz {n : Nat} (h : n ≤ 1000000) : n ≤ sizeLine := Nat.le_trans h (by decide)
theorem szm {α β : Type} {f : α → β} {l : List α} (h : l.length ≤ 1000000) : (l.map f).length ≤ sizeLine := by rw [List.length_map]; exact sz h
inductive PV where
  | none | ell | ni
  | bool (b : Bool)
  | int (i : Int)
  | flt (b : UInt64)
  | str (s : Str)
  | bytes (b : Array UInt8)
  | typ (n : String)
  | bi (id : String)
  | ref (a : Addr)

noncomputable def pv : Value → PV
  | .none => .none | .ellipsis => .ell | .notImplemented => .ni
  | .bool b => .bool b | .int i _ => .int i | .float b _ => .flt b | .str s _ => .str s | .bytes b _ => .bytes b
  | .type n => .typ n | .builtin i => .bi i | .ref a => .ref a

theorem pv_none {v : Value} (h : pv v = .none) : v = .none := by cases v <;> first | rfl | exact PV.noConfusion h
theorem pv_bool {v : Value} {b : Bool} (h : pv v = .bool b) : v = .bool b := by cases v <;> first | exact PV.noConfusion h | exact congrArg Value.bool (PV.bool.inj h)
theorem pv_int {v : Value} {i : Int} (h : pv v = .int i) : ∃ t, v = .int i t := by cases v <;> first | exact PV.noConfusion h | exact ⟨_, congrArg (Value.int · _) (PV.int.inj h)⟩
theorem pv_str {v : Value} {x : Str} (h : pv v = .str x) : ∃ t, v = .str x t := by cases v <;> first | exact PV.noConfusion h | exact ⟨_, congrArg (Value.str · _) (PV.str.inj h)⟩
theorem pv_bytes {v : Value} {x : Array UInt8} (h : pv v = .bytes x) : ∃ t, v = .bytes x t := by cases v <;> first | exact PV.noConfusion h | exact ⟨_, congrArg (Value.bytes · _) (PV.bytes.inj h)⟩
theorem pv_ref {v : Value} {a : Addr} (h : pv v = .ref a) : v = .ref a := by cases v <;> first | exact PV.noConfusion h | exact congrArg Value.ref (PV.ref.inj h)
theorem pv_typ {v : Value} {a : String} (h : pv v = .typ a) : v = .type a := by cases v <;> first | exact PV.noConfusion h | exact congrArg Value.type (PV.typ.inj h)

theorem argsL {us : List Value} {ps : List PV} (h : us.map pv = ps) : us.length = ps.length := by rw [← h, List.length_map]
theorem args1 {us : List Value} {p : PV} (h : us.map pv = [p]) : ∃ u, us = [u] := List.length_eq_one_iff.mp (argsL h)
theorem args2 {us : List Value} {p q : PV} (h : us.map pv = [p, q]) : ∃ u1 u2, us = [u1, u2] := by
  rcases us with _ | ⟨u1, us⟩
  · cases h
  obtain ⟨u2, rfl⟩ := args1 (List.cons.inj h).2
  exact ⟨u1, u2, rfl⟩
theorem args3 {us : List Value} {p q r : PV} (h : us.map pv = [p, q, r]) : ∃ u1 u2 u3, us = [u1, u2, u3] := by
  rcases us with _ | ⟨u1, us⟩
  · cases h
  obtain ⟨u2, u3, rfl⟩ := args2 (List.cons.inj h).2
  exact ⟨u1, u2, u3, rfl⟩

structure Cx where
  prog : Program
  w : World
  g : Array GenState
  d : Drawn
  o : OsState
noncomputable abbrev Cx.M (C : Cx) : Model := model C.prog C.w
noncomputable abbrev Cx.st (C : Cx) (h : Heap) (t : Nat) : Shared := ⟨h, C.g, C.d, t, C.o⟩

noncomputable def Wp (C : Cx) (A : Around) {α : Type} (T : Sem α) (Q : α → Heap → Prop) (h : Heap) : Prop :=
  ∀ t, wpAny C.M A T (fun a s' => ∃ h' t', s' = C.st h' t' ∧ Q a h') (fun _ _ => False) (C.st h t)
noncomputable def Cp (C : Cx) (A : Around) (c : Code) (Q : Flow → Heap → Prop) (h : Heap) : Prop :=
  ∀ t, codeAny C.M A c (fun r s' => ∃ f h' t', r = .ok f ∧ s' = C.st h' t' ∧ Q f h') (C.st h t)

section
variable {C : Cx} {A : Around} {α β : Type} {h : Heap} {env : Env}

theorem Wp.seq {T : Sem α} {P : α → Heap → Prop} (x : Wp C A T P h) (t : Nat) {Q : α → Shared → Prop} {E : Value → Shared → Prop}
    (k : ∀ a h' t', P a h' → Q a (C.st h' t')) : wpAny C.M A T Q E (C.st h t) :=
  wpAny_mono (x t) (fun a s' => by rintro ⟨h', t', rfl, q⟩; exact k a h' t' q) (fun _ _ z => z.elim)
theorem Wp.mono {T : Sem α} {P Q : α → Heap → Prop} (x : Wp C A T P h) (k : ∀ a h', P a h' → Q a h') : Wp C A T Q h :=
  fun t => x.seq t fun a h' t' q => ⟨h', t', rfl, k a h' q⟩
theorem Wp.bind {T : Sem α} {f : α → Sem β} {Q : β → Heap → Prop} (x : Wp C A T (fun a h' => Wp C A (f a) Q h') h) : Wp C A (T >>= f) Q h :=
  fun t => wpAny_bind (x.seq t fun _ _ t' q => q t')
theorem Wp.pure {a : α} {Q : α → Heap → Prop} (k : Q a h) : Wp C A (Pure.pure a) Q h := fun _ => wpAny_pure ⟨_, _, rfl, k⟩
theorem Wp.holding {vs : List Value} {T : Sem α} {Q : α → Heap → Prop} (x : Wp C A T Q h) : Wp C A (holding vs T) Q h := fun t => wpAny_holding (x t)
theorem Wp.standAt {pos : Pos} {Q : Unit → Heap → Prop} (k : Q () h) : Wp C A (PySem.standAt pos) Q h := fun _ => wpAny_standAt ⟨_, _, rfl, k⟩
theorem Wp.rule {tag : String} {Q : Unit → Heap → Prop} (k : Q () h) : Wp C A (PySem.rule tag) Q h := fun _ => wpAny_rule ⟨_, _, rfl, k⟩
theorem Wp.load {a : Addr} {o : Obj} {Q : Obj → Heap → Prop} (ho : h.get? a = some o) (k : Q o h) : Wp C A (PySem.load a) Q h := fun _ => wpAny_load ho ⟨_, _, rfl, k⟩
theorem Wp.fresh {Q : Tok → Heap → Prop} (k : ∀ t, Q t h) : Wp C A PySem.fresh Q h := fun t => wpAny_fresh ⟨_, _, rfl, k t⟩

theorem Cp.code {c : Code} {Q : Flow → Heap → Prop} (x : Cp C A c Q h) (t : Nat) {R : Result → Shared → Prop} (k : ∀ f h' t', Q f h' → R (.ok f) (C.st h' t')) : codeAny C.M A c R (C.st h t) :=
  codeAny_mono (x t) fun r s' => by rintro ⟨f, h', t', rfl, rfl, q⟩; exact k f h' t' q
theorem Cp.mono {c : Code} {P Q : Flow → Heap → Prop} (x : Cp C A c P h) (k : ∀ f h', P f h' → Q f h') : Cp C A c Q h :=
  fun t => x.code t fun f h' t' q => ⟨f, h', t', rfl, rfl, k f h' q⟩
theorem Wp.call {f : Value} {vs : List Value} {kw : List (Str × Value)} {Q : Value → Heap → Prop} (x : Cp C A (.call f ⟨vs, kw⟩) (fun fl h' => ∃ v, fl = .ret v ∧ Q v h') h) :
    Wp C A (PySem.call f vs kw) Q h :=
  fun t => wpAny_call (x.code t fun fl h' t' ⟨_, e, q⟩ => by subst e; exact ⟨_, _, rfl, q⟩)
end

inductive AO where
  | list (ps : List PV)
  | tup (ps : List PV)
  | raw (o : Obj)
  | obj (P : Obj → Prop)
noncomputable def AO.den : AO → Obj → Prop
  | .list ps, o => ∃ vs n, o = ⟨.type "list", none, .seq vs n, #[]⟩ ∧ vs.toList.map pv = ps
  | .tup ps, o => ∃ vs n, o = ⟨.type "tuple", none, .seq vs n, #[]⟩ ∧ vs.toList.map pv = ps
  | .raw o', o => o = o'
  | .obj P, o => P o
noncomputable def Own (h : Heap) (a : Addr) (x : AO) : Prop := ∃ o, h.get? a = some o ∧ x.den o
noncomputable def Keeps (h h' : Heap) : Prop := ∀ b o, h.get? b = some o → h'.get? b = some o
theorem Keeps.trans {h h' h'' : Heap} (x : Keeps h h') (y : Keeps h' h'') : Keeps h h'' := fun b o e => y b o (x b o e)
theorem Own.keeps {h h' : Heap} {a : Addr} {x : AO} (k : Keeps h h') : Own h a x → Own h' a x := fun ⟨o, e, d⟩ => ⟨o, k a o e, d⟩

inductive At : List (Str × Option PV) → Str → PV → Prop
  | here {x p l} : At ((x, some p) :: l) x p
  | there {x p y l} : At l x p → At (y :: l) x p
inductive Put (x : Str) (p : PV) : List (Str × Option PV) → List (Str × Option PV) → Prop
  | here {q l} : Put x p ((x, q) :: l) ((x, some p) :: l)
  | there {y l l'} : Put x p l l' → Put x p (y :: l) (y :: l')
theorem At.mem {l : List (Str × Option PV)} {x : Str} {p : PV} (a : At l x p) : (x, some p) ∈ l := by
  induction a with
  | here => exact .head _
  | there _ ih => exact .tail _ ih
theorem Put.keys {x : Str} {p : PV} {l l' : List (Str × Option PV)} (a : Put x p l l') : l'.map (·.1) = l.map (·.1) := by
  induction a with
  | here => rfl
  | there _ ih => simp [ih]
theorem Put.key {x : Str} {p : PV} {l l' : List (Str × Option PV)} (a : Put x p l l') : x ∈ l.map (·.1) := by
  induction a with
  | here => exact .head _
  | there _ ih => exact .tail _ ih
theorem Put.mem {x y : Str} {p q : PV} {l l' : List (Str × Option PV)} (a : Put x p l l') (nd : (l.map (·.1)).Nodup) (hy : (y, some q) ∈ l') : (y = x ∧ q = p) ∨ (y ≠ x ∧ (y, some q) ∈ l) := by
  induction a with
  | here =>
    rename_i q' l
    rcases List.mem_cons.mp hy with e | e
    · cases e; exact .inl ⟨rfl, rfl⟩
    · refine .inr ⟨fun z => ?_, .tail _ e⟩
      subst z
      exact (List.nodup_cons.mp nd).1 (List.mem_map.mpr ⟨_, e, rfl⟩)
  | there a ih =>
    rename_i z l l'
    rcases List.mem_cons.mp hy with e | e
    · subst e
      refine .inr ⟨fun z => ?_, .head _⟩
      have := a.key
      rw [← z] at this
      exact (List.nodup_cons.mp nd).1 this
    · rcases ih (List.nodup_cons.mp nd).2 e with c | c
      · exact .inl c
      · exact .inr ⟨c.1, .tail _ c.2⟩

noncomputable def Loc (L : Addr) (l : List (Str × Option PV)) (h : Heap) : Prop := ∃ m, h.Ns L m ∧ ∀ x p, (x, some p) ∈ l → ∃ v, m x = some v ∧ pv v = p
structure LocK (env : Env) (ks : List Str) : Prop where
  kind : env.scope.kind = .function
  kinds : ∀ x ∈ ks, env.kindOf x = some .local
  nd : ks.Nodup

structure St (env : Env) (h₀ : Heap) (l : List (Str × Option PV)) (cs : List (Addr × AO)) (h : Heap) : Prop where
  loc : Loc env.locals l h
  lk : LocK env (l.map (·.1))
  keep : Keeps h₀ h
  low : h₀.get? env.locals = none
  own : ∀ p ∈ cs, Own h p.1 p.2
  fresh : ∀ p ∈ cs, h₀.get? p.1 = none
  nd : (env.locals :: cs.map (·.1)).Nodup

section
variable {C : Cx} {A : Around} {h h₀ h' : Heap} {env : Env} {l l' : List (Str × Option PV)} {cs : List (Addr × AO)}

theorem Loc.keeps {L : Addr} (k : Keeps h h') : Loc L l h → Loc L l h' := fun ⟨m, n, r⟩ => ⟨m, n.keeps k, r⟩
theorem St.keeps (Z : St env h₀ l cs h) (k : Keeps h h') : St env h₀ l cs h' :=
  ⟨Z.loc.keeps k, Z.lk, Z.keep.trans k, Z.low, fun p hp => (Z.own p hp).keeps k, Z.fresh, Z.nd⟩
theorem Own.sameBut {L a : Addr} {x : AO} (hs : Heap.SameBut L h h') (ne : a ≠ L) : Own h a x → Own h' a x := fun ⟨o, e, d⟩ => ⟨o, (hs.2 a ne).trans e, d⟩
theorem St.neL (Z : St env h₀ l cs h) {a : Addr} {x : AO} (m : (a, x) ∈ cs) : a ≠ env.locals := fun e => by
  subst e; exact (List.nodup_cons.mp Z.nd).1 (List.mem_map.mpr ⟨_, m, rfl⟩)

theorem w_store {x : Str} {p : PV} {v : Value} {Q : Unit → Heap → Prop} (Z : St env h₀ l cs h) (hv : pv v = p) (hp : Put x p l l')
    (k : ∀ h', St env h₀ l' cs h' → Q () h') : Wp C A (storeName env x v) Q h := fun t => by
  obtain ⟨m, n, r⟩ := Z.loc
  refine wpAny_storeName_local (Z.lk.kinds x hp.key) n (fun h' n' hs => ⟨h', _, rfl, k h' ?_⟩) (by rw [Z.lk.kind]; rfl)
  refine ⟨⟨_, n', fun y q hy => ?_⟩, by rw [hp.keys]; exact Z.lk, fun b o e => ?_, Z.low, fun q hq => ?_, Z.fresh, Z.nd⟩
  · rcases hp.mem Z.lk.nd hy with ⟨rfl, rfl⟩ | ⟨ne, my⟩
    · exact ⟨v, by simp, hv⟩
    · obtain ⟨w, e, ev⟩ := r y q my
      exact ⟨w, by simp [ne, e], ev⟩
  · have : b ≠ env.locals := fun z => by rw [z, Z.low] at e; cases e
    exact (hs.2 b this).trans (Z.keep b o e)
  · exact (Z.own q hq).sameBut hs (Z.neL (x := q.2) hq)

noncomputable def Pe (C : Cx) (A : Around) (env : Env) (h : Heap) (e : Expr) (p : PV) : Prop := ∀ Q : Value → Heap → Prop, (∀ v, pv v = p → Q v h) → Wp C A (eval e env) Q h
noncomputable def Pt (C : Cx) (A : Around) (env : Env) (h : Heap) (e : Expr) (b : Bool) : Prop := ∀ Q : Bool → Heap → Prop, Q b h → Wp C A (isTrue e env (eval e env)) Q h

theorem w_load {x : Str} {p : PV} {Q : Value → Heap → Prop} (Z : St env h₀ l cs h) (a : At l x p) (k : ∀ v, pv v = p → Q v h) : Wp C A (loadName env x) Q h := fun t => by
  obtain ⟨m, n, r⟩ := Z.loc
  obtain ⟨v, e, ev⟩ := r x p a.mem
  exact wpAny_loadName_local Z.lk.kind (Z.lk.kinds x (List.mem_map.mpr ⟨_, a.mem, rfl⟩)) n e ⟨_, _, rfl, k v ev⟩
theorem e_name {x : Str} {p : PV} {pos : Pos} (Z : St env h₀ l cs h) (a : At l x p) (hd : (x == ("__debug__" : Str)) = false := by decide) : Pe C A env h (.Name x pos) p :=
  fun Q k t => wpAny_Name (w_load Z a k t) hd
theorem e_int {i : Int} {u : Nat} {pos : Pos} : Pe C A env h (.Constant (.int i) u pos) (.int i) := fun _ k t => wpAny_Constant_int ⟨_, _, rfl, k _ rfl⟩
theorem e_none {u : Nat} {pos : Pos} : Pe C A env h (.Constant .none u pos) .none := fun _ k _ => wpAny_Constant_none ⟨_, _, rfl, k _ rfl⟩
theorem e_bool {b : Bool} {u : Nat} {pos : Pos} : Pe C A env h (.Constant (.bool b) u pos) (.bool b) := fun _ k _ => wpAny_Constant_bool ⟨_, _, rfl, k _ rfl⟩
theorem e_str {b : Str} {u : Nat} {pos : Pos} : Pe C A env h (.Constant (.str b) u pos) (.str b) := fun _ k _ => wpAny_Constant_str ⟨_, _, rfl, k _ rfl⟩

theorem Wp.BinOp {a b : Expr} {op : Operator} {pos : Pos} {Q : Value → Heap → Prop} (x : Wp C A (eval a env) (fun u h1 => Wp C A (eval b env) (fun v h2 => Wp C A (binaryOp op u v) Q h2) h1) h) :
    Wp C A (eval (.BinOp a op b pos) env) Q h := fun t => wpAny_BinOp (x.seq t fun _ _ t1 q1 => q1.seq t1 fun _ _ t2 q2 => q2 t2)
theorem e_bin {a b : Expr} {op : Operator} {pos : Pos} {p q r : PV} (x : Pe C A env h a p) (y : Pe C A env h b q)
    (z : ∀ u v, pv u = p → pv v = q → ∀ Q : Value → Heap → Prop, (∀ w, pv w = r → Q w h) → Wp C A (binaryOp op u v) Q h) : Pe C A env h (.BinOp a op b pos) r :=
  fun Q k => Wp.BinOp (x _ fun u hu => y _ fun v hv => z u v hu hv Q k)
theorem e_add {a b : Expr} {pos : Pos} {i j : Int} (x : Pe C A env h a (.int i)) (y : Pe C A env h b (.int j)) : Pe C A env h (.BinOp a .Add b pos) (.int (i + j)) :=
  e_bin x y fun u v hu hv Q k t => by
    obtain ⟨_, rfl⟩ := pv_int hu; obtain ⟨_, rfl⟩ := pv_int hv
    exact add_int ⟨_, _, rfl, k _ rfl⟩
theorem e_sub {a b : Expr} {pos : Pos} {i j : Int} (x : Pe C A env h a (.int i)) (y : Pe C A env h b (.int j)) : Pe C A env h (.BinOp a .Sub b pos) (.int (i - j)) :=
  e_bin x y fun u v hu hv Q k t => by
    obtain ⟨_, rfl⟩ := pv_int hu; obtain ⟨_, rfl⟩ := pv_int hv
    exact sub_int ⟨_, _, rfl, k _ rfl⟩
end


structure Rm (n : Nat) (A : Around) : Prop where
  d : A.depth + n ≤ 900
  u : A.units + 20 * n ≤ 9000
  h : A.handled = none
theorem Rm.less {n m : Nat} {A : Around} (r : Rm n A) (e : m ≤ n) : Rm m A := ⟨by have := r.d; lia, by have := r.u; lia, r.h⟩
theorem Rm.deeper {n : Nat} {A : Around} (r : Rm (n + 1) A) (env : Env) : Rm n (A.deeper env) :=
  ⟨by have := r.d; show A.depth + 1 + n ≤ 900; lia, by have := r.u; show A.units + 3 + 20 * n ≤ 9000; lia, r.h⟩
theorem Rm.in1 {n : Nat} {A : Around} (r : Rm (n + 1) A) : Rm n A.in1 := ⟨by have := r.d; show A.depth + n ≤ 900; lia, by have := r.u; show A.units + 1 + 20 * n ≤ 9000; lia, r.h⟩
theorem Rm.room {n : Nat} {A : Around} (r : Rm n A) : A.depth < recursionLimit := by have := r.d; show A.depth < 1000; lia
theorem Rm.units {n : Nat} {A : Around} (r : Rm n A) : A.units < cLine := by have := r.u; show A.units < 9900; lia

section
variable {C : Cx} {A : Around} {h h₀ h' : Heap} {env : Env} {l l' : List (Str × Option PV)} {cs : List (Addr × AO)}

theorem e_mul {a b : Expr} {pos : Pos} {i j : Int} (x : Pe C A env h a (.int i)) (y : Pe C A env h b (.int j)) (hm : IntMulOk i j) : Pe C A env h (.BinOp a .Mult b pos) (.int (i * j)) :=
  e_bin x y fun u v hu hv Q k t => by
    obtain ⟨_, rfl⟩ := pv_int hu; obtain ⟨_, rfl⟩ := pv_int hv
    exact PyProof.Rows.mul_int ⟨_, _, rfl, k _ rfl⟩ hm
theorem e_floordiv {a b : Expr} {pos : Pos} {i j : Int} (x : Pe C A env h a (.int i)) (y : Pe C A env h b (.int j)) (hj : j ≠ 0 := by decide) (hs : j.natAbs < 1073741824 := by decide) : Pe C A env h (.BinOp a .FloorDiv b pos) (.int (i.fdiv j)) :=
  e_bin x y fun u v hu hv Q k t => by
    obtain ⟨_, rfl⟩ := pv_int hu; obtain ⟨_, rfl⟩ := pv_int hv
    exact floordiv_int hj ⟨_, _, rfl, k _ rfl⟩ (.inl (PyProof.noPylong_small hs))
theorem e_mod {a b : Expr} {pos : Pos} {i j : Int} (x : Pe C A env h a (.int i)) (y : Pe C A env h b (.int j)) (hj : j ≠ 0 := by decide) : Pe C A env h (.BinOp a .Mod b pos) (.int (i.fmod j)) :=
  e_bin x y fun u v hu hv Q k t => by
    obtain ⟨_, rfl⟩ := pv_int hu; obtain ⟨_, rfl⟩ := pv_int hv
    exact mod_int' hj ⟨_, _, rfl, k _ rfl⟩
theorem e_rshift {a b : Expr} {pos : Pos} {i j : Int} (x : Pe C A env h a (.int i)) (y : Pe C A env h b (.int j)) (hj : 0 ≤ j := by decide) : Pe C A env h (.BinOp a .RShift b pos) (.int (i.fdiv (2 ^ j.toNat))) :=
  e_bin x y fun u v hu hv Q k t => by
    obtain ⟨_, rfl⟩ := pv_int hu; obtain ⟨_, rfl⟩ := pv_int hv
    exact rshift_int hj ⟨_, _, rfl, k _ rfl⟩
theorem e_lshift {a b : Expr} {pos : Pos} {i j : Int} (x : Pe C A env h a (.int i)) (y : Pe C A env h b (.int j)) (hj : 0 ≤ j) (hsz : (Builtin.Int.intBits i : Int) + j ≤ 2 ^ 27) : Pe C A env h (.BinOp a .LShift b pos) (.int (i * 2 ^ j.toNat)) :=
  e_bin x y fun u v hu hv Q k t => by
    obtain ⟨_, rfl⟩ := pv_int hu; obtain ⟨_, rfl⟩ := pv_int hv
    exact lshift_int hj hsz ⟨_, _, rfl, k _ rfl⟩
theorem e_and {a b : Expr} {pos : Pos} {i j : Int} (x : Pe C A env h a (.int i)) (y : Pe C A env h b (.int j)) : Pe C A env h (.BinOp a .BitAnd b pos) (.int (Builtin.bitAnd i j)) :=
  e_bin x y fun u v hu hv Q k t => by
    obtain ⟨_, rfl⟩ := pv_int hu; obtain ⟨_, rfl⟩ := pv_int hv
    exact and_int ⟨_, _, rfl, k _ rfl⟩
theorem e_or {a b : Expr} {pos : Pos} {i j : Int} (x : Pe C A env h a (.int i)) (y : Pe C A env h b (.int j)) : Pe C A env h (.BinOp a .BitOr b pos) (.int (Builtin.bitOr i j)) :=
  e_bin x y fun u v hu hv Q k t => by
    obtain ⟨_, rfl⟩ := pv_int hu; obtain ⟨_, rfl⟩ := pv_int hv
    exact or_int ⟨_, _, rfl, k _ rfl⟩
theorem e_pow {a b : Expr} {pos : Pos} {i j : Int} (x : Pe C A env h a (.int i)) (y : Pe C A env h b (.int j)) (hj : 0 ≤ j) (hsz : (Builtin.Int.intBits i : Int) * j ≤ 2 ^ 27) : Pe C A env h (.BinOp a .Pow b pos) (.int (i ^ j.toNat)) :=
  e_bin x y fun u v hu hv Q k t => by
    obtain ⟨_, rfl⟩ := pv_int hu; obtain ⟨_, rfl⟩ := pv_int hv
    exact pow_int hj hsz ⟨_, _, rfl, k _ rfl⟩

noncomputable def Cm (C : Cx) (A : Around) (h : Heap) (op : CmpOp) (p q : PV) (b : Bool) : Prop :=
  ∀ u v, pv u = p → pv v = q → ∀ Q : Value → Heap → Prop, Q (.bool b) h → Wp C A (compareOp op u v) Q h
theorem c_lt {i j : Int} : Cm C A h .Lt (.int i) (.int j) (decide (i < j)) := fun u v hu hv Q k t => by
  obtain ⟨_, rfl⟩ := pv_int hu; obtain ⟨_, rfl⟩ := pv_int hv
  exact lt_int ⟨_, _, rfl, k⟩
theorem c_le {i j : Int} : Cm C A h .LtE (.int i) (.int j) (decide (i ≤ j)) := fun u v hu hv Q k t => by
  obtain ⟨_, rfl⟩ := pv_int hu; obtain ⟨_, rfl⟩ := pv_int hv
  exact le_int ⟨_, _, rfl, k⟩
theorem c_gt {i j : Int} : Cm C A h .Gt (.int i) (.int j) (decide (j < i)) := fun u v hu hv Q k t => by
  obtain ⟨_, rfl⟩ := pv_int hu; obtain ⟨_, rfl⟩ := pv_int hv
  exact gt_int ⟨_, _, rfl, k⟩
theorem c_ge {i j : Int} : Cm C A h .GtE (.int i) (.int j) (decide (j ≤ i)) := fun u v hu hv Q k t => by
  obtain ⟨_, rfl⟩ := pv_int hu; obtain ⟨_, rfl⟩ := pv_int hv
  exact ge_int ⟨_, _, rfl, k⟩
theorem c_eq {i j : Int} : Cm C A h .Eq (.int i) (.int j) (decide (i = j)) := fun u v hu hv Q k t => by
  obtain ⟨_, rfl⟩ := pv_int hu; obtain ⟨_, rfl⟩ := pv_int hv
  exact eq_int ⟨_, _, rfl, by rw [show (i == j) = decide (i = j) from rfl]; exact k⟩
theorem c_ne {i j : Int} : Cm C A h .NotEq (.int i) (.int j) (!decide (i = j)) := fun u v hu hv Q k t => by
  obtain ⟨_, rfl⟩ := pv_int hu; obtain ⟨_, rfl⟩ := pv_int hv
  exact ne_int ⟨_, _, rfl, by rw [show (i != j) = !decide (i = j) from rfl]; exact k⟩
theorem c_is_none {p : PV} {b : Bool} (hb : b = (match p with | .none => true | _ => false)) : Cm C A h .Is p .none b := fun u v hu hv Q k t => by
  obtain rfl := pv_none hv
  refine is_none ⟨_, _, rfl, ?_⟩
  have : (u == Value.none) = b := by subst hb; subst hu; cases u <;> rfl
  rw [this]; exact k
theorem c_isnot_none {p : PV} {b : Bool} (hb : b = (match p with | .none => false | _ => true)) : Cm C A h .IsNot p .none b := fun u v hu hv Q k t => by
  obtain rfl := pv_none hv
  refine isNot_none ⟨_, _, rfl, ?_⟩
  have : (!(u == Value.none)) = b := by subst hb; subst hu; cases u <;> rfl
  rw [this]; exact k

theorem e_cmp {a b : Expr} {op : CmpOp} {pos : Pos} {p q : PV} {c : Bool} (x : Pe C A env h a p) (y : Pe C A env h b q) (z : Cm C A h op p q c)
    (hm : behindInMarks op b = false := by with_unfolding_all rfl) : Pe C A env h (.Compare a [op] [b] pos) (.bool c) :=
  fun Q k t => wpAny_Compare1 (((x _ fun u hu => y _ fun v hv => z u v hu hv _ (k _ rfl)) : Wp C A (eval a env) (fun u h1 => Wp C A (eval b env) (fun v h2 => Wp C A (compareOp op u v) Q h2) h1) h).seq t
    fun _ _ t1 q1 => q1.seq t1 fun _ _ t2 q2 => q2 t2) hm
theorem t_cmp {a b : Expr} {op : CmpOp} {pos : Pos} {p q : PV} {c d : Bool} (x : Pe C A env h a p) (y : Pe C A env h b q) (z : Cm C A h op p q c) (e : c = d)
    (hm : behindInMarks op b = false := by with_unfolding_all rfl) : Pt C A env h (.Compare a [op] [b] pos) d :=
  fun Q k t => wpAny_isTrue_Compare1 (((x _ fun u hu => y _ fun v hv => z u v hu hv (fun w h2 => w = .bool c ∧ h2 = h) ⟨rfl, rfl⟩) : Wp C A (eval a env) (fun u h1 => Wp C A (eval b env) (fun v h2 => Wp C A (compareOp op u v) (fun w h3 => w = .bool c ∧ h3 = h) h2) h1) h).seq t
    fun _ _ t1 q1 => q1.seq t1 fun _ _ t2 q2 => q2.seq t2 fun w h3 t3 q3 => by obtain ⟨rfl, rfl⟩ := q3; exact wpAny_truthy_bool ⟨_, _, rfl, e ▸ k⟩) hm

theorem t_not {a : Expr} {pos : Pos} {b : Bool} (x : Pt C A env h a b) : Pt C A env h (.UnaryOp .Not a pos) (!b) :=
  fun _ k t => wpAny_isTrue_Not (x (fun c h' => c = b ∧ h' = h) ⟨rfl, rfl⟩ |>.seq t fun _ _ _ q => by obtain ⟨rfl, rfl⟩ := q; exact ⟨_, _, rfl, k⟩)
theorem t_bool {e : Expr} {b : Bool} (x : Pe C A env h e (.bool b)) (hx : isTrue e env (eval e env) = (do let v ← eval e env; PySem.standAt e.pos; holding [v] (truthy v)) := by rfl) : Pt C A env h e b := fun Q k => by
  rw [hx]
  refine Wp.bind (x _ fun v hv => ?_)
  obtain rfl := pv_bool hv
  exact Wp.bind (Wp.standAt (Wp.holding fun t => wpAny_truthy_bool ⟨_, _, rfl, k⟩))
noncomputable def Pall (C : Cx) (A : Around) (env : Env) (h : Heap) (op : BoolOp) (es : List Expr) (b : Bool) : Prop := ∀ Q : Bool → Heap → Prop, Q b h → Wp C A (allTrue op es env) Q h
theorem t_all {op : BoolOp} {es : List Expr} {pos : Pos} {b : Bool} (x : Pall C A env h op es b) : Pt C A env h (.BoolOp op es pos) b := fun Q k t => wpAny_isTrue_BoolOp (x Q k t)
theorem all_and_nil : Pall C A env h .And [] true := fun _ k _ => wpAny_allTrue_And_nil ⟨_, _, rfl, k⟩
theorem all_and_t {a : Expr} {r : List Expr} {b : Bool} (x : Pt C A env h a true) (y : Pall C A env h .And r b) : Pall C A env h .And (a :: r) b :=
  fun Q k t => wpAny_allTrue_And_cons (x (fun c h' => c = true ∧ h' = h) ⟨rfl, rfl⟩ |>.seq t fun _ _ t' q => by obtain ⟨rfl, rfl⟩ := q; exact y Q k t')
theorem all_and_f {a : Expr} {r : List Expr} (x : Pt C A env h a false) : Pall C A env h .And (a :: r) false :=
  fun _ k t => wpAny_allTrue_And_cons (x (fun c h' => c = false ∧ h' = h) ⟨rfl, rfl⟩ |>.seq t fun _ _ _ q => by obtain ⟨rfl, rfl⟩ := q; exact ⟨_, _, rfl, k⟩)
theorem all_or_f {a : Expr} {r : List Expr} {b : Bool} (x : Pt C A env h a false) (y : Pall C A env h .Or r b) : Pall C A env h .Or (a :: r) b :=
  fun Q k t => wpAny_allTrue_Or_cons (x (fun c h' => c = false ∧ h' = h) ⟨rfl, rfl⟩ |>.seq t fun _ _ t' q => by obtain ⟨rfl, rfl⟩ := q; exact y Q k t')
theorem all_or_t {a : Expr} {r : List Expr} (x : Pt C A env h a true) : Pall C A env h .Or (a :: r) true :=
  fun _ k t => wpAny_allTrue_Or_cons (x (fun c h' => c = true ∧ h' = h) ⟨rfl, rfl⟩ |>.seq t fun _ _ _ q => by obtain ⟨rfl, rfl⟩ := q; exact ⟨_, _, rfl, k⟩)

noncomputable def Sq (C : Cx) (A : Around) (env : Env) (rest : List Stmt) (Q : Flow → Heap → Prop) : Flow → Heap → Prop := fun f h' => match f with
  | .next => Wp C A (execs rest env) Q h'
  | f => Q f h'
theorem sq_ret {rest : List Stmt} {Q : Flow → Heap → Prop} {v : Value} (k : Q (.ret v) h) : Sq C A env rest Q (.ret v) h := k
theorem sq_cont {rest : List Stmt} {Q : Flow → Heap → Prop} (k : Q .cont h) : Sq C A env rest Q .cont h := k
noncomputable def Fq (Q : Value → Heap → Prop) : Flow → Heap → Prop := fun fl h' => Q (match fl with | .ret v => v | _ => .none) h'
theorem fq_ret {Q : Value → Heap → Prop} {v : Value} (k : Q v h) : Fq Q (.ret v) h := k
theorem fq_next {Q : Value → Heap → Prop} (k : Q .none h) : Fq Q .next h := k
theorem x_cons {s : Stmt} {rest : List Stmt} {Q : Flow → Heap → Prop} (x : Wp C A (exec s env) (Sq C A env rest Q) h) : Wp C A (execs (s :: rest) env) Q h := fun t =>
  wpAny_execs_cons (x.seq t fun f _ t' q => by cases f <;> first | exact q t' | exact ⟨_, _, rfl, q⟩)
theorem x_nil {Q : Flow → Heap → Prop} (k : Q .next h) : Wp C A (execs [] env) Q h := fun _ => wpAny_execs_nil ⟨_, _, rfl, k⟩
theorem x_done {rest : List Stmt} {Q : Flow → Heap → Prop} (k : Wp C A (execs rest env) Q h) : Wp C A (execs [] env) (Sq C A env rest Q) h := x_nil k
theorem x_assign {x : Str} {p1 pos : Pos} {e : Expr} {rest : List Stmt} {p : PV} {Q : Flow → Heap → Prop} (Z : St env h₀ l cs h) (y : Pe C A env h e p) (hp : Put x p l l')
    (k : ∀ h', St env h₀ l' cs h' → Wp C A (execs rest env) Q h') (hs : swapsWith e (some (.Name x p1)) pos.line env = pure false := by rfl) :
    Wp C A (execs (.Assign [.Name x p1] e pos :: rest) env) Q h :=
  x_cons fun t => wpAny_Assign_Name ((y _ fun v hv => (w_store Z hv hp fun h' Z' => k h' Z' : Wp C A (storeName env x v) (fun _ h' => Sq C A env rest Q .next h') h)).seq t fun _ _ t' q => q.seq t' fun _ _ _ q => ⟨_, _, rfl, q⟩) hs
theorem x_assign' {x : Str} {p1 pos : Pos} {e : Expr} {rest : List Stmt} {Q : Flow → Heap → Prop}
    (y : Wp C A (eval e env) (fun v h1 => Wp C A (storeName env x v) (fun _ h2 => Wp C A (execs rest env) Q h2) h1) h) (hs : swapsWith e (some (.Name x p1)) pos.line env = pure false := by rfl) :
    Wp C A (execs (.Assign [.Name x p1] e pos :: rest) env) Q h :=
  x_cons fun t => wpAny_Assign_Name (y.seq t fun _ _ t' q => q.seq t' fun _ _ _ q => ⟨_, _, rfl, q⟩) hs
theorem x_if {test : Expr} {body orelse : List Stmt} {pos : Pos} {rest : List Stmt} {b : Bool} {Q : Flow → Heap → Prop} (x : Pt C A env h test b)
    (kt : b = true → Wp C A (execs body env) (Sq C A env rest Q) h) (kf : b = false → Wp C A (execs orelse env) (Sq C A env rest Q) h) : Wp C A (execs (.If test body orelse pos :: rest) env) Q h :=
  x_cons fun t => wpAny_If ((x (fun c h' => c = b ∧ h' = h) ⟨rfl, rfl⟩).seq t fun c _ t' q => by
    obtain ⟨rfl, rfl⟩ := q
    cases c with
    | true => simp only [if_true]; exact kt rfl t'
    | false => simp only [Bool.false_eq_true, if_false]; exact kf rfl t')
theorem x_ret {e : Expr} {pos : Pos} {rest : List Stmt} {p : PV} {Q : Flow → Heap → Prop} (x : Pe C A env h e p) (k : ∀ v, pv v = p → Q (.ret v) h) : Wp C A (execs (.Return (some e) pos :: rest) env) Q h :=
  x_cons fun t => wpAny_Return_some ((x (fun v h' => pv v = p ∧ h' = h) fun _ hv => ⟨hv, rfl⟩).seq t fun v _ _ q => by obtain ⟨hv, rfl⟩ := q; exact ⟨_, _, rfl, k v hv⟩)
theorem x_ret' {e : Expr} {pos : Pos} {rest : List Stmt} {Q : Flow → Heap → Prop} (x : Wp C A (eval e env) (fun v h' => Q (.ret v) h') h) : Wp C A (execs (.Return (some e) pos :: rest) env) Q h :=
  x_cons fun t => wpAny_Return_some (x.seq t fun _ _ _ q => ⟨_, _, rfl, q⟩)
theorem x_cont {pos : Pos} {rest : List Stmt} {Q : Flow → Heap → Prop} (k : Q .cont h) : Wp C A (execs (.Continue pos :: rest) env) Q h := x_cons fun _ => wpAny_Continue ⟨_, _, rfl, k⟩
theorem x_brk {pos : Pos} {rest : List Stmt} {Q : Flow → Heap → Prop} (k : Q .brk h) : Wp C A (execs (.Break pos :: rest) env) Q h := x_cons fun _ => wpAny_Break ⟨_, _, rfl, k⟩
noncomputable def Lp (I : Heap → Prop) (Q : Flow → Heap → Prop) : Flow → Heap → Prop := fun f h' => match f with
  | .next | .cont => I h'
  | .brk => Q .next h'
  | .ret v => Q (.ret v) h'
theorem lp_next {I : Heap → Prop} {Q : Flow → Heap → Prop} (k : I h) : Lp I Q .next h := k
theorem lp_cont {I : Heap → Prop} {Q : Flow → Heap → Prop} (k : I h) : Lp I Q .cont h := k
theorem lp_brk {I : Heap → Prop} {Q : Flow → Heap → Prop} (k : Q .next h) : Lp I Q .brk h := k
theorem x_while {test : Expr} {body : List Stmt} {pos : Pos} {rest : List Stmt} {Q : Flow → Heap → Prop} (I : Nat → Heap → Prop)
    (turn : ∀ n h, I n h → Wp C A (isTrue test env (eval test env)) (fun b h2 => if b then Wp C A (execs body env) (Lp (fun h3 => ∃ m, m < n ∧ I m h3) (Sq C A env rest Q)) h2 else Wp C A (execs rest env) Q h2) h)
    (n : Nat) (h0 : I n h) : Wp C A (execs (.While test body [] pos :: rest) env) Q h := by
  refine x_cons fun t => wpAny_While ?_
  refine codeAny_whileLoop (fun n s => ∃ h t, s = C.st h t ∧ I n h) (fun n s => ?_) n ⟨h, t, rfl, h0⟩
  rintro ⟨h1, t1, rfl, q1⟩
  refine (turn n h1 q1).seq t1 fun b h2 t2 q2 => ?_
  cases b with
  | true =>
    simp only [if_true] at q2 ⊢
    refine q2.seq t2 fun f h3 t3 q3 => ?_
    cases f with
    | next => obtain ⟨m, hm, q⟩ := q3; exact ⟨m, hm, _, _, rfl, q⟩
    | cont => obtain ⟨m, hm, q⟩ := q3; exact ⟨m, hm, _, _, rfl, q⟩
    | brk => exact ⟨_, _, rfl, q3⟩
    | ret v => exact ⟨_, _, rfl, q3⟩
  | false =>
    simp only [Bool.false_eq_true, if_false] at q2 ⊢
    exact wpAny_execs_nil ⟨_, _, rfl, q2⟩
theorem w_test {e : Expr} {b : Bool} {P R : Heap → Prop} (x : Pt C A env h e b) (kt : b = true → P h) (kf : b = false → R h) :
    Wp C A (isTrue e env (eval e env)) (fun c h2 => if c then P h2 else R h2) h := x _ (by
  cases b with
  | true => simp only [if_true]; exact kt rfl
  | false => simp only [Bool.false_eq_true, if_false]; exact kf rfl)

theorem w_for {target : Expr} {body : List Stmt} {it : Value} {Q : Flow → Heap → Prop} (n : Nat) (I : Nat → Heap → Prop)
    (turn : ∀ i h, i < n → I i h → ∀ R : Flow → Heap → Prop, (∀ {f h'}, Lp (I (i + 1)) Q f h' → R f h') → Wp C A (pyNext it) (fun r h1 => ∃ v, r = some v ∧ Wp C A (letOwnedTupleGo target it v) (fun _ h1' => Wp C A (assign target env v) (fun _ h2 => Wp C A (execs body env) R h2) h1') h1) h)
    (fin : ∀ h, I n h → Wp C A (pyNext it) (fun r h1 => r = none ∧ Q .next h1) h) (h0 : I 0 h) : Cp C A (.forLoop target it body [] env) Q h := fun t => by
  refine codeAny_forLoop_any (fun m s => ∃ i h t, m + i = n ∧ s = C.st h t ∧ I i h) (fun m s => ?_) n ⟨0, h, t, by lia, rfl, h0⟩
  rintro ⟨i, h1, t1, hi, rfl, q1⟩
  cases m with
  | zero =>
    obtain rfl : i = n := by lia
    refine (fin h1 q1).seq t1 fun r h2 t2 q2 => ?_
    obtain ⟨rfl, q2⟩ := q2
    exact wpAny_execs_nil ⟨_, _, _, rfl, rfl, q2⟩
  | succ m =>
    refine (turn i h1 (by lia) q1 _ (fun {_ _} z => z)).seq t1 fun r h2 t2 q2 => ?_
    obtain ⟨v, rfl, q2⟩ := q2
    refine q2.seq t2 fun _ h3 t3 q3 => q3.seq t3 fun _ h4 t4 q4 => q4.seq t4 fun f h5 t5 q5 => ?_
    cases f with
    | next => exact ⟨m, by lia, i + 1, _, _, by lia, rfl, q5⟩
    | cont => exact ⟨m, by lia, i + 1, _, _, by lia, rfl, q5⟩
    | brk => exact ⟨_, _, _, rfl, rfl, q5⟩
    | ret v => exact ⟨_, _, _, rfl, rfl, q5⟩
theorem x_for {target iter : Expr} {body : List Stmt} {pos : Pos} {rest : List Stmt} {Q : Flow → Heap → Prop}
    (x : Wp C A (eval iter env) (fun v h1 => Wp C A (pyIter v) (fun it h2 => Cp C A (.forLoop target it body [] env) (Sq C A env rest Q) h2) h1) h)
    (hs : ∀ x, foldedSetIterable iter env x = Pure.pure x := by intro _; rfl) : Wp C A (execs (.For target iter body [] pos :: rest) env) Q h :=
  x_cons fun t => wpAny_For (x.seq t fun _ _ t1 q1 => q1.seq t1 fun _ _ t2 q2 => q2.code t2 fun _ _ _ q => ⟨_, _, rfl, q⟩) hs
theorem e_neg {a : Expr} {pos : Pos} {i : Int} (x : Pe C A env h a (.int i)) : Pe C A env h (.UnaryOp .USub a pos) (.int (-i)) := fun Q k t =>
  UnaryOp_ ((x (fun v h' => (∃ u, v = .int i u) ∧ h = h') fun v hv => ⟨pv_int hv, rfl⟩).seq t fun u _ t1 q1 => by
    obtain ⟨⟨u, rfl⟩, rfl⟩ := q1
    exact PyProof.Rows.neg_int ⟨_, _, rfl, k _ rfl⟩)
inductive CmI (C : Cx) (A : Around) (h : Heap) : CmpOp → PV → PV → Bool → Prop
  | lt {i j : Int} : CmI C A h .Lt (.int i) (.int j) (decide (i < j))
  | le {i j : Int} : CmI C A h .LtE (.int i) (.int j) (decide (i ≤ j))
  | gt {i j : Int} : CmI C A h .Gt (.int i) (.int j) (decide (j < i))
  | ge {i j : Int} : CmI C A h .GtE (.int i) (.int j) (decide (j ≤ i))
  | eq {i j : Int} : CmI C A h .Eq (.int i) (.int j) (decide (i = j))
  | ne {i j : Int} : CmI C A h .NotEq (.int i) (.int j) (!decide (i = j))
  | isn {p : PV} {b : Bool} (hb : b = (match p with | .none => true | _ => false)) : CmI C A h .Is p .none b
  | isnn {p : PV} {b : Bool} (hb : b = (match p with | .none => false | _ => true)) : CmI C A h .IsNot p .none b
theorem CmI.cm {op : CmpOp} {p q : PV} {b : Bool} (x : CmI C A h op p q b) : Cm C A h op p q b := by
  cases x with
  | lt => exact c_lt
  | le => exact c_le
  | gt => exact c_gt
  | ge => exact c_ge
  | eq => exact c_eq
  | ne => exact c_ne
  | isn e => exact c_is_none e
  | isnn e => exact c_isnot_none e
inductive PeI (C : Cx) (A : Around) (env : Env) (h : Heap) : Expr → PV → Prop
  | int {i : Int} {u : Nat} {pos : Pos} : PeI C A env h (.Constant (.int i) u pos) (.int i)
  | name {x : Str} {p : PV} {pos : Pos} {h₀ : Heap} {l : List (Str × Option PV)} {cs : List (Addr × AO)} (Z : St env h₀ l cs h) (a : At l x p) (hd : (x == ("__debug__" : Str)) = false) : PeI C A env h (.Name x pos) p
  | none {u : Nat} {pos : Pos} : PeI C A env h (.Constant .none u pos) .none
  | bool {b : Bool} {u : Nat} {pos : Pos} : PeI C A env h (.Constant (.bool b) u pos) (.bool b)
  | str {b : Str} {u : Nat} {pos : Pos} : PeI C A env h (.Constant (.str b) u pos) (.str b)
  | neg {a : Expr} {pos : Pos} {i : Int} (x : Pe C A env h a (.int i)) : PeI C A env h (.UnaryOp .USub a pos) (.int (-i))
  | add {a b : Expr} {pos : Pos} {i j : Int} (x : Pe C A env h a (.int i)) (y : Pe C A env h b (.int j)) : PeI C A env h (.BinOp a .Add b pos) (.int (i + j))
  | sub {a b : Expr} {pos : Pos} {i j : Int} (x : Pe C A env h a (.int i)) (y : Pe C A env h b (.int j)) : PeI C A env h (.BinOp a .Sub b pos) (.int (i - j))
  | mul {a b : Expr} {pos : Pos} {i j : Int} (x : Pe C A env h a (.int i)) (y : Pe C A env h b (.int j)) (hm : IntMulOk i j) : PeI C A env h (.BinOp a .Mult b pos) (.int (i * j))
  | fdiv {a b : Expr} {pos : Pos} {i j : Int} (x : Pe C A env h a (.int i)) (y : Pe C A env h b (.int j)) (hj : j ≠ 0) (hs : j.natAbs < 1073741824) : PeI C A env h (.BinOp a .FloorDiv b pos) (.int (i.fdiv j))
  | mod {a b : Expr} {pos : Pos} {i j : Int} (x : Pe C A env h a (.int i)) (y : Pe C A env h b (.int j)) (hj : j ≠ 0) : PeI C A env h (.BinOp a .Mod b pos) (.int (i.fmod j))
  | rsh {a b : Expr} {pos : Pos} {i j : Int} (x : Pe C A env h a (.int i)) (y : Pe C A env h b (.int j)) (hj : 0 ≤ j) : PeI C A env h (.BinOp a .RShift b pos) (.int (i.fdiv (2 ^ j.toNat)))
  | cmp {a b : Expr} {op : CmpOp} {pos : Pos} {p q : PV} {c : Bool} (x : Pe C A env h a p) (y : Pe C A env h b q) (z : Cm C A h op p q c) (hm : behindInMarks op b = false) : PeI C A env h (.Compare a [op] [b] pos) (.bool c)
theorem PeI.pe {e : Expr} {p : PV} (x : PeI C A env h e p) : Pe C A env h e p := by
  cases x with
  | int => exact e_int
  | name Z a hd => exact e_name Z a hd
  | none => exact e_none
  | bool => exact e_bool
  | str => exact e_str
  | neg x => exact e_neg x
  | add x y => exact e_add x y
  | sub x y => exact e_sub x y
  | mul x y hm => exact e_mul x y hm
  | fdiv x y hj hs => exact e_floordiv x y hj hs
  | mod x y hj => exact e_mod x y hj
  | rsh x y hj => exact e_rshift x y hj
  | cmp x y z hm => exact e_cmp x y z hm
end


structure Gd (K : Frag) (h : Heap) : Prop where
  k : K.In h
  g : ∃ mg mb, h.Ns mainGlobals mg ∧ h.Ns builtinsNs mb ∧ ∀ x : Str, x ≠ "__name__" → mb x = bootBuiltins x
  nolimit : h.NoLimit
theorem Gd.keeps {K : Frag} {h h' : Heap} (G : Gd K h) (k : Keeps h h') : Gd K h' := by
  obtain ⟨mg, mb, a, b, c⟩ := G.g
  exact ⟨G.k.keeps k, ⟨mg, mb, a.keeps k, b.keeps k, c⟩, G.nolimit.keeps k⟩

section
variable {C : Cx} {A : Around} {h h₀ h' : Heap} {env : Env} {l l' : List (Str × Option PV)} {cs : List (Addr × AO)} {K : Frag}

noncomputable def Gl (C : Cx) (A : Around) (env : Env) (h : Heap) (x : Str) (v : Value) : Prop := ∀ (pos : Pos) (Q : Value → Heap → Prop), Q v h → Wp C A (eval (.Name x pos) env) Q h
theorem gl_top {x : Str} {v : Value} (G : Gd K h) (e : nsIn K mainGlobals x = some (some v)) (hk : env.scope.kind = .function) (hx : env.kindOf x = some .globalImplicit)
    (hg : env.globals = mainGlobals) (hd : (x == ("__debug__" : Str)) = false := by decide) : Gl C A env h x v := fun pos Q k t => by
  obtain ⟨mg, mb, a, b, c⟩ := G.g
  exact Calls.Name_function_global hk hx (Calls.loadGlobal_global (by rw [hg]; exact a) (mg_of G.k a e) ⟨_, _, rfl, k⟩) hd
theorem gl_boot {x : Str} {v : Value} (G : Gd K h) (e : nsIn K mainGlobals x = some none) (hv : bootBuiltins x = some v) (hn : x ≠ "__name__") (hk : env.scope.kind = .function) (hx : env.kindOf x = some .globalImplicit)
    (hg : env.globals = mainGlobals) (hb : env.builtins = builtinsNs) (hd : (x == ("__debug__" : Str)) = false := by decide) : Gl C A env h x v := fun pos Q k t => by
  obtain ⟨mg, mb, a, b, c⟩ := G.g
  exact Calls.Name_function_global hk hx (Calls.loadGlobal_builtin (by rw [hg]; exact a) (mg_none_of G.k a e) (by rw [hb]; exact b) ((c x hn).trans hv) ⟨_, _, rfl, k⟩) hd
theorem e_gl {x : Str} {v : Value} {pos : Pos} (g : Gl C A env h x v) : Pe C A env h (.Name x pos) (pv v) := fun _ k => g pos _ (k v rfl)

noncomputable def Ps (C : Cx) (A : Around) (env : Env) (h : Heap) (es : List Expr) (ps : List PV) : Prop :=
  ∀ (pos : Pos) (Q : List Value → Heap → Prop), (∀ vs, vs.map pv = ps → Q vs h) → Wp C A (spliced (backTo pos (starEach es env))) Q h
theorem ps_nil : Ps C A env h [] [] := fun _ _ k _ => spliced_none ⟨_, _, rfl, k [] rfl⟩
theorem w_args_nil {pos : Pos} {Q : List Value → Heap → Prop} (k : Q [] h) : Wp C A (spliced (backTo pos (starEach [] env))) Q h := fun _ => spliced_none ⟨_, _, rfl, k⟩
theorem w_args_cons {e : Expr} {r : List Expr} {pos : Pos} {Q : List Value → Heap → Prop} (x : Wp C A (eval e env) (fun v h1 => Wp C A (spliced (backTo pos (starEach r env))) (fun vs h2 => Q (v :: vs) h2) h1) h)
    (he : starEach (e :: r) env = (false, eval e env) :: starEach r env := by rfl) : Wp C A (spliced (backTo pos (starEach (e :: r) env))) Q h :=
  fun t => spliced_more (x.seq t fun _ _ t1 q1 => q1.seq t1 fun _ _ _ q => ⟨_, _, rfl, q⟩) he
theorem ps_cons {e : Expr} {r : List Expr} {p : PV} {ps : List PV} (x : Pe C A env h e p) (y : Ps C A env h r ps) (he : starEach (e :: r) env = (false, eval e env) :: starEach r env := by rfl) :
    Ps C A env h (e :: r) (p :: ps) := fun pos Q k => w_args_cons (x _ fun v hv => y pos _ fun vs hvs => k (v :: vs) (by simp [hv, hvs])) he

theorem w_call_fn {x : Str} {p0 pos : Pos} {e : Expr} {r : List Expr} {f : Addr} {Q : Value → Heap → Prop} (g : Gl C A env h x (.ref f)) (hf : FnAt f h)
    (y : Wp C A (spliced (backTo pos (starEach (e :: r) env))) (fun vs h1 => FnAt f h1 ∧ Cp C A (.call (.ref f) ⟨vs, []⟩) (fun fl h' => ∃ v, fl = .ret v ∧ Q v h') h1) h)
    (he : starEach (e :: r) env = (false, eval e env) :: starEach r env := by rfl) (hp : (backTo pos (starEach r env)).any (·.1) = false := by rfl) :
    Wp C A (eval (.Call (.Name x p0) (e :: r) [] pos) env) Q h := fun t =>
  Call_ ((g p0 (fun v h1 => v = .ref f ∧ h1 = h) ⟨rfl, rfl⟩).seq t fun v h1 t1 q1 => by
    obtain ⟨rfl, rfl⟩ := q1
    have X : PySem.W.FnAt f h1 := hf
    refine callWith_F (first := []) X (y.seq t1 fun vs h2 t2 q2 => ⟨q2.1, Wp.call q2.2 t2⟩) he hp)
theorem w_call_bi {x : Str} {p0 pos : Pos} {e : Expr} {r : List Expr} {id : String} {Q : Value → Heap → Prop} (g : Gl C A env h x (.builtin id))
    (y : Wp C A (spliced (backTo pos (starEach (e :: r) env))) (fun vs h1 => Wp C A (call (.builtin id) vs) Q h1) h)
    (he : starEach (e :: r) env = (false, eval e env) :: starEach r env := by rfl) (hp : (backTo pos (starEach r env)).any (·.1) = false := by rfl) :
    Wp C A (eval (.Call (.Name x p0) (e :: r) [] pos) env) Q h := fun t =>
  Call_ ((g p0 (fun v h1 => v = .builtin id ∧ h1 = h) ⟨rfl, rfl⟩).seq t fun v h1 t1 q1 => by
    obtain ⟨rfl, rfl⟩ := q1
    exact callWith_builtin1 (y.seq t1 fun vs h2 t2 q2 => q2 t2) he hp)
theorem w_call_ty {x : Str} {p0 pos : Pos} {e : Expr} {r : List Expr} {id : String} {Q : Value → Heap → Prop} (g : Gl C A env h x (.type id))
    (y : Wp C A (spliced (backTo pos (starEach (e :: r) env))) (fun vs h1 => Wp C A (call (.type id) vs) Q h1) h)
    (he : starEach (e :: r) env = (false, eval e env) :: starEach r env := by rfl) (hp : (backTo pos (starEach r env)).any (·.1) = false := by rfl) :
    Wp C A (eval (.Call (.Name x p0) (e :: r) [] pos) env) Q h := fun t =>
  Call_ ((g p0 (fun v h1 => v = .type id ∧ h1 = h) ⟨rfl, rfl⟩).seq t fun v h1 t1 q1 => by
    obtain ⟨rfl, rfl⟩ := q1
    exact PyProof.Rows.callWith_type1 (y.seq t1 fun vs h2 t2 q2 => q2 t2) he hp)

noncomputable def fdOf (K : Frag) (a : Addr) : FuncData := match K.lookup a with | some ⟨_, _, .func f, _⟩ => f | _ => default
noncomputable def isFnOf (K : Frag) (a : Addr) : Bool := match K.lookup a with | some ⟨_, _, .func f, _⟩ => codeIn K f.code f.qualname | _ => false
theorem fn_at {K : Frag} {a : Addr} (e : isFnOf K a = true) : ∃ o, K.lookup a = some o ∧ o.data = .func (fdOf K a) ∧ codeIn K (fdOf K a).code (fdOf K a).qualname = true := by
  unfold isFnOf at e
  unfold fdOf
  rcases q : K.lookup a with _ | ⟨c, d, data, sl⟩
  · rw [q] at e; exact Bool.noConfusion e
  · rw [q] at e
    cases data <;> first | exact ⟨_, rfl, rfl, e⟩ | exact Bool.noConfusion e
theorem fn_body {K : Frag} {f : Addr} {oc : Value} {od : Option Addr} {fd : FuncData} {osl : Array (Option Value)} {body : List Stmt} (ho : K.lookup f = some ⟨oc, od, .func fd, osl⟩) (hb : fd.body = .stmts body) : (fdOf K f).body = .stmts body := by
  unfold fdOf; rw [ho]; exact hb
theorem Gd.fn (G : Gd K h) {f : Addr} (e : isFnOf K f = true) : FnAt f h := by
  obtain ⟨⟨c, d, dt, sl⟩, a, b, _⟩ := fn_at e
  cases b
  exact ⟨c, d, _, sl, G.k _ _ a⟩

theorem LocK.of {ks : List Str} (hk : env.scope.kind = .function) (e : ks.map env.kindOf = ks.map fun _ => some .local) (nd : ks.Nodup) : LocK env ks := by
  refine ⟨hk, fun x hx => ?_, nd⟩
  obtain ⟨i, hi, rfl⟩ := List.mem_iff_getElem.mp hx
  have := congrArg (·[i]?) e
  simpa [List.getElem?_map, List.getElem?_eq_getElem hi] using this
theorem lookup_of_mem {α : Type} : ∀ {l : List (Str × α)} {x : Str} {v : α}, (l.map (·.1)).Nodup → (x, v) ∈ l → l.lookup x = some v
  | (y, w) :: l, x, v, nd, m => by
    rcases List.mem_cons.mp m with e | e
    · cases e; simp [List.lookup]
    · have ne : x ≠ y := fun z => (List.nodup_cons.mp nd).1 (z ▸ List.mem_map.mpr ⟨_, e, rfl⟩)
      have := lookup_of_mem (List.nodup_cons.mp nd).2 e
      simp [List.lookup, this, beq_eq_false_iff_ne.mpr ne]
theorem fn_enter' {f : Addr} {vs : List Value} {kw : List (Str × Value)} {binds : List (Str × Value)} {body : List Stmt} {n : Nat} {Q : Flow → Heap → Prop} (hA : Rm (n + 1) A) (G : Gd K h) (e : isFnOf K f = true)
    (hbody : (fdOf K f).body = .stmts body) (hbind : ∀ t, BindsTo (C.st h t) (fdOf K f) ⟨vs, kw⟩ binds)
    (hcell : ((fdOf K f).scope.names.all fun x => x.2 != .cell) = true) (hloc : ((binds.map (·.1)).all fun x => (fdOf K f).scope.names.lookup x == some .local) = true)
    (hnd : (binds.map (·.1)).Nodup) (lk : ∀ L, LocK (callEnv (fdOf K f) L f) (l.map (·.1))) (hl : ∀ x p, (x, some p) ∈ l → ∃ v, (x, v) ∈ binds ∧ pv v = p)
    (k : ∀ L h₁, St (callEnv (fdOf K f) L f) h l [] h₁ → Gd K h₁ → Rm n (A.deeper (callEnv (fdOf K f) L f)) → Wp C (A.deeper (callEnv (fdOf K f) L f)) (execs body (callEnv (fdOf K f) L f)) (fun fl h' => Q (.ret (match fl with | .ret v => v | _ => .none)) h') h₁)
    (hco : (fdOf K f).scope.isCoroutine = false) (hgen : (fdOf K f).scope.isGenerator = false) (hk : (fdOf K f).scope.kind = .function) :
    Cp C A (.call (.ref f) ⟨vs, kw⟩) Q h := fun t => by
  obtain ⟨o, a, b, c⟩ := fn_at e
  refine codeAny_call_def hA.room (G.k _ _ a) b G.nolimit (codeRec_of G.k c) hbody (hbind t) ?_ ?_ (fun h₁ hns kp => ?_) hco hgen hk
  · intro x hx
    have := List.all_eq_true.mp hcell x hx
    simpa using this
  · intro x hx
    have := List.all_eq_true.mp hloc x.1 (List.mem_map.mpr ⟨x, hx, rfl⟩)
    simpa using this
  · have low : h.get? h.objs.size = none := by
      cases q : h.get? h.objs.size with
      | none => rfl
      | some o' => exact absurd (Heap.lt_size q) (Nat.lt_irrefl _)
    refine (k h.objs.size h₁ ⟨⟨_, hns, fun x p hx => ?_⟩, lk _, kp, low, (fun _ q => nomatch q), (fun _ q => nomatch q), ?_⟩ (G.keeps kp) (hA.deeper _)).seq _ fun fl h' t' q => ⟨_, _, _, rfl, rfl, q⟩
    · obtain ⟨v, m, e⟩ := hl x p hx
      refine ⟨v, lookup_of_mem ?_ (List.mem_reverse.mpr m), e⟩
      rw [List.map_reverse]
      exact (List.reverse_perm _).nodup_iff.mpr hnd
    · simp
structure Bd (C : Cx) (h : Heap) (fd : FuncData) (vs : List Value) (kw : List (Str × Value)) (binds : List (Str × Value)) : Prop where
  out : ∀ t, BindsTo (C.st h t) fd ⟨vs, kw⟩ binds
theorem Bd.of_eq {fd : FuncData} {vs : List Value} {kw : List (Str × Value)} {binds : List (Str × Value)} (e : bindArgs fd ⟨vs, kw⟩ = Pure.pure binds) : Bd C h fd vs kw binds := ⟨fun _ => BindsTo.of_eq e⟩
structure Fn (K : Frag) (f : Addr) (xs ys : List Str) (body : List Stmt) : Prop where
  e : isFnOf K f = true
  b : (fdOf K f).body = .stmts body
  cell : ((fdOf K f).scope.names.all fun x => x.2 != .cell) = true
  loc : (xs.all fun x => (fdOf K f).scope.names.lookup x == some .local) = true
  lk : ∀ L, LocK (callEnv (fdOf K f) L f) (xs ++ ys)
  co : (fdOf K f).scope.isCoroutine = false
  gen : (fdOf K f).scope.isGenerator = false
  kind : (fdOf K f).scope.kind = .function
  glob : (fdOf K f).globals = mainGlobals := by kernel_rfl
  blt : (fdOf K f).builtins = builtinsNs := by kernel_rfl
structure EnvOf (K : Frag) (f : Addr) (env : Env) : Prop where
  kind : env.scope.kind = .function
  glob : env.globals = mainGlobals
  blt : env.builtins = builtinsNs
  look : ∀ x, env.kindOf x = (fdOf K f).scope.names.lookup x
theorem EnvOf.inter {f : Addr} (E : EnvOf K f env) : interactive env = false := by unfold interactive; rw [E.kind]; rfl
theorem gl_topE {f : Addr} {x : Str} {v : Value} (G : Gd K h) (E : EnvOf K f env) (e : nsIn K mainGlobals x = some (some v)) (hx : (fdOf K f).scope.names.lookup x = some .globalImplicit)
    (hd : (x == ("__debug__" : Str)) = false := by decide) : Gl C A env h x v := gl_top G e E.kind ((E.look x).trans hx) E.glob hd
theorem gl_bootE {f : Addr} {x : Str} {v : Value} (G : Gd K h) (E : EnvOf K f env) (e : nsIn K mainGlobals x = some none) (hv : bootBuiltins x = some v) (hn : x ≠ "__name__") (hx : (fdOf K f).scope.names.lookup x = some .globalImplicit)
    (hd : (x == ("__debug__" : Str)) = false := by decide) : Gl C A env h x v := gl_boot G e hv hn E.kind ((E.look x).trans hx) E.glob E.blt hd
theorem zip_mem {xs : List Str} : ∀ {vs : List Value} {x : Str} {p : PV}, (x, p) ∈ xs.zip (vs.map pv) → ∃ v, (x, v) ∈ xs.zip vs ∧ pv v = p := by
  induction xs with
  | nil => intro vs x p m; simp at m
  | cons y xs ih =>
    intro vs x p m
    cases vs with
    | nil => simp at m
    | cons v vs =>
      rcases List.mem_cons.mp (show (x, p) ∈ (y, pv v) :: xs.zip (vs.map pv) from m) with e | e
      · cases e; exact ⟨v, .head _, rfl⟩
      · obtain ⟨w, a, b⟩ := ih e
        exact ⟨w, .tail _ a, b⟩
theorem fn_enter {f : Addr} {vs vs' : List Value} {kw : List (Str × Value)} {ps : List PV} {xs ys : List Str} {body : List Stmt} {n : Nat} {Q : Value → Heap → Prop} (F : Fn K f xs ys body) (hA : Rm (n + 1) A) (G : Gd K h)
    (hv : vs.map pv = ps) (hlen : vs.length = xs.length) (hbind : Bd C h (fdOf K f) vs' kw (xs.zip vs))
    (hl : l = (xs.zip ps).map (fun x => (x.1, some x.2)) ++ ys.map (fun y => (y, none)))
    (k : ∀ {A' : Around} (env : Env) h₁, EnvOf K f env → St env h l [] h₁ → Gd K h₁ → Rm n A' → Wp C A' (execs body env) (Fq Q) h₁) :
    Cp C A (.call (.ref f) ⟨vs', kw⟩) (fun fl h' => ∃ v, fl = .ret v ∧ Q v h') h := by
  have hz : (xs.zip vs).map (·.1) = xs := by rw [List.map_fst_zip (by lia)]
  have hz2 : (xs.zip ps).map (·.1) = xs := by rw [List.map_fst_zip (by rw [← hv, List.length_map]; lia)]
  have hks : l.map (·.1) = xs ++ ys := by
    rw [hl, List.map_append, List.map_map, List.map_map]
    have : (fun (x : Str × Option PV) => x.1) ∘ (fun (x : Str × PV) => (x.1, some x.2)) = fun x => x.1 := rfl
    rw [this, hz2]
    congr 1
    exact List.map_id _
  refine fn_enter' hA G F.e F.b hbind.out F.cell (by rw [hz]; exact F.loc) ?_ (fun L => by rw [hks]; exact F.lk L) ?_ (fun L h₁ Z G' R' => (k _ h₁ ⟨F.kind, F.glob, F.blt, fun _ => rfl⟩ Z G' R').mono fun fl h' q => ⟨_, rfl, q⟩) F.co F.gen F.kind
  · rw [hz]; exact (List.nodup_append.mp (F.lk 0).nd).1
  · intro x p m
    rw [hl] at m
    rcases List.mem_append.mp m with e | e
    · obtain ⟨⟨x', p'⟩, a, b⟩ := List.mem_map.mp e
      cases b
      rw [← hv] at a
      exact zip_mem a
    · obtain ⟨y, _, b⟩ := List.mem_map.mp e
      cases b
theorem t_chain {a b c : Expr} {o1 o2 : CmpOp} {pos : Pos} {p q r : PV} {b1 b2 d : Bool} (x : Pe C A env h a p) (y : Pe C A env h b q) (z : Pe C A env h c r) (c1 : Cm C A h o1 p q b1) (c2 : Cm C A h o2 q r b2) (e : (b1 && b2) = d)
    (hm : lastMarks [o1, o2] [b, c] = false := by with_unfolding_all rfl) : Pt C A env h (.Compare a [o1, o2] [b, c] pos) d := fun Q k t => by
  refine isTrue_chain ((x (fun v h' => pv v = p ∧ h = h') fun v hv => ⟨hv, rfl⟩).seq t fun u _ t1 q1 => ?_) hm
  obtain ⟨hu, rfl⟩ := q1
  refine test_link ((y (fun v h' => pv v = q ∧ h = h') fun v hv => ⟨hv, rfl⟩).seq t1 fun v _ t2 q2 => ?_)
  obtain ⟨hv, rfl⟩ := q2
  refine (c1 u v hu hv (fun w h' => w = .bool b1 ∧ h = h') ⟨rfl, rfl⟩).seq t2 fun w _ t3 q3 => ?_
  obtain ⟨rfl, rfl⟩ := q3
  refine wpAny_truthy_bool ?_
  cases b1 with
  | false => subst e; simp only [Bool.false_eq_true, if_false]; exact ⟨_, _, rfl, k⟩
  | true =>
    simp only [if_true]
    refine test_last ((z (fun v h' => pv v = r ∧ h = h') fun v hv => ⟨hv, rfl⟩).seq t3 fun w _ t4 q4 => ?_)
    obtain ⟨hw, rfl⟩ := q4
    refine (c2 v w hv hw (fun w h' => w = .bool b2 ∧ h = h') ⟨rfl, rfl⟩).seq t4 fun w _ t5 q5 => ?_
    obtain ⟨rfl, rfl⟩ := q5
    exact wpAny_truthy_bool ⟨_, _, rfl, by subst e; exact k⟩
end


inductive CAt : List (Addr × AO) → Addr → AO → Prop
  | here {a x l} : CAt ((a, x) :: l) a x
  | there {a x y l} : CAt l a x → CAt (y :: l) a x
inductive CSet (a : Addr) (x : AO) : List (Addr × AO) → List (Addr × AO) → Prop
  | here {y l} : CSet a x ((a, y) :: l) ((a, x) :: l)
  | there {y l l'} : CSet a x l l' → CSet a x (y :: l) (y :: l')
theorem CAt.mem {l : List (Addr × AO)} {a : Addr} {x : AO} (c : CAt l a x) : (a, x) ∈ l := by
  induction c with
  | here => exact .head _
  | there _ ih => exact .tail _ ih
theorem CSet.keys {a : Addr} {x : AO} {l l' : List (Addr × AO)} (c : CSet a x l l') : l'.map (·.1) = l.map (·.1) := by
  induction c with
  | here => rfl
  | there _ ih => simp [ih]
theorem CSet.key {a : Addr} {x : AO} {l l' : List (Addr × AO)} (c : CSet a x l l') : a ∈ l.map (·.1) := by
  induction c with
  | here => exact .head _
  | there _ ih => exact .tail _ ih
theorem CSet.mem {a b : Addr} {x y : AO} {l l' : List (Addr × AO)} (c : CSet a x l l') (nd : (l.map (·.1)).Nodup) (hy : (b, y) ∈ l') : (b = a ∧ y = x) ∨ (b ≠ a ∧ (b, y) ∈ l) := by
  induction c with
  | here =>
    rcases List.mem_cons.mp hy with e | e
    · cases e; exact .inl ⟨rfl, rfl⟩
    · refine .inr ⟨fun z => ?_, .tail _ e⟩
      subst z
      exact (List.nodup_cons.mp nd).1 (List.mem_map.mpr ⟨_, e, rfl⟩)
  | there c ih =>
    rcases List.mem_cons.mp hy with e | e
    · subst e
      refine .inr ⟨fun z => ?_, .head _⟩
      have := c.key
      rw [← z] at this
      exact (List.nodup_cons.mp nd).1 this
    · rcases ih (List.nodup_cons.mp nd).2 e with c | c
      · exact .inl c
      · exact .inr ⟨c.1, .tail _ c.2⟩

section
variable {C : Cx} {A : Around} {h h₀ h' : Heap} {env : Env} {l l' : List (Str × Option PV)} {cs cs' : List (Addr × AO)} {K : Frag}

theorem St.get (Z : St env h₀ l cs h) {a : Addr} {x : AO} (c : CAt cs a x) : Own h a x := Z.own _ c.mem
theorem St.upd (Z : St env h₀ l cs h) {a : Addr} {x : AO} (c : CSet a x cs cs') (hs : Heap.SameBut a h h') (ho : Own h' a x) : St env h₀ l cs' h' := by
  have neL : a ≠ env.locals := fun e => by
    have := c.key
    rw [e] at this
    exact (List.nodup_cons.mp Z.nd).1 this
  have fr : h₀.get? a = none := by
    obtain ⟨⟨b, y⟩, m, e⟩ := List.mem_map.mp c.key
    cases e
    exact Z.fresh _ m
  refine ⟨?_, Z.lk, fun b o e => ?_, Z.low, fun p hp => ?_, fun p hp => ?_, by rw [c.keys]; exact Z.nd⟩
  · obtain ⟨m, n, r⟩ := Z.loc
    exact ⟨m, n.sameBut hs neL.symm, r⟩
  · exact (hs.2 b fun z => by rw [z, fr] at e; cases e).trans (Z.keep b o e)
  · rcases c.mem (List.nodup_cons.mp Z.nd).2 (b := p.1) (y := p.2) hp with ⟨e1, e2⟩ | ⟨ne, m⟩
    · rw [e1, e2]; exact ho
    · exact (Z.own _ m).sameBut hs ne
  · have : p.1 ∈ cs.map (·.1) := by rw [← c.keys]; exact List.mem_map.mpr ⟨p, hp, rfl⟩
    obtain ⟨q, m, e⟩ := List.mem_map.mp this
    rw [← e]; exact Z.fresh _ m
theorem get_size_none (h : Heap) : h.get? h.objs.size = none := by
  cases q : h.get? h.objs.size with
  | none => rfl
  | some o' => exact absurd (Heap.lt_size q) (Nat.lt_irrefl _)
theorem keeps_push (h : Heap) (o : Obj) : Keeps h (h.push o) := fun _ _ e => Heap.get?_push_of_some _ e
theorem St.push (Z : St env h₀ l cs h) {o : Obj} {x : AO} (hd : x.den o) (hf : o.isFreed = false := by rfl) : St env h₀ l ((h.objs.size, x) :: cs) (h.push o) := by
  have Z' := Z.keeps (keeps_push h o)
  have nn : ∀ b : Addr, (∃ o, h.get? b = some o) → b ≠ h.objs.size := fun b ⟨o, e⟩ => Nat.ne_of_lt (Heap.lt_size e)
  refine ⟨Z'.loc, Z'.lk, Z'.keep, Z'.low, fun p hp => ?_, fun p hp => ?_, ?_⟩
  · rcases List.mem_cons.mp hp with rfl | hp
    · exact ⟨o, Heap.get?_push_size _ hf, hd⟩
    · exact Z'.own p hp
  · rcases List.mem_cons.mp hp with rfl | hp
    · cases q : h₀.get? h.objs.size with
      | none => rfl
      | some o' => have := Z.keep _ _ q; rw [get_size_none] at this; cases this
    · exact Z'.fresh p hp
  · have nd := List.nodup_cons.mp Z.nd
    simp only [List.map_cons]
    refine List.nodup_cons.mpr ⟨fun m => ?_, List.nodup_cons.mpr ⟨fun m => ?_, nd.2⟩⟩
    · rcases List.mem_cons.mp m with e | e
      · obtain ⟨m, ⟨o, _, _, eo, _⟩, _⟩ := Z.loc
        exact nn _ ⟨o, eo⟩ e
      · exact nd.1 e
    · obtain ⟨⟨b, y⟩, hm, e⟩ := List.mem_map.mp m
      obtain ⟨o', eo, _⟩ := Z.own _ hm
      exact nn b ⟨o', eo⟩ e
theorem St.drop {c : Addr × AO} (Z : St env h₀ l (c :: cs) h) : St env h₀ l cs h :=
  ⟨Z.loc, Z.lk, Z.keep, Z.low, fun p hp => Z.own p (.tail _ hp), fun p hp => Z.fresh p (.tail _ hp), by
    have := Z.nd
    simp only [List.map_cons] at this
    obtain ⟨a, b⟩ := List.nodup_cons.mp this
    exact List.nodup_cons.mpr ⟨fun m => a (.tail _ m), (List.nodup_cons.mp b).2⟩⟩

theorem own_list {a : Addr} {ps : List PV} (x : Own h a (.list ps)) : ∃ vs n, h.get? a = some (listOf vs n) ∧ vs.toList.map pv = ps := by
  obtain ⟨_, e, vs, n, rfl, hv⟩ := x
  exact ⟨vs, n, e, hv⟩
theorem map_pv_get {vs : Array Value} {ps : List PV} (e : vs.toList.map pv = ps) {i : Nat} {p : PV} (hp : ps[i]? = some p) : ∃ v, vs[i]? = some v ∧ pv v = p := by
  subst e
  rw [List.getElem?_map] at hp
  cases q : vs.toList[i]? with
  | none => rw [q] at hp; cases hp
  | some v => rw [q] at hp; cases hp; exact ⟨v, by simpa using q, rfl⟩
theorem e_item {e i : Expr} {pos : Pos} {a : Addr} {k : Int} {ps : List PV} {p : PV} (x : Pe C A env h e (.ref a)) (y : Pe C A env h i (.int k)) (o : Own h a (.list ps)) (h0 : 0 ≤ k) (h1 : k < 2 ^ 63) (hp : ps[k.toNat]? = some p)
    (hs : ∀ u, subscripted i false (.ref a) (.int k u) = operate [.ref a, .int k u] (getItem (.ref a) (.int k u)) := by intro _; with_unfolding_all rfl) : Pe C A env h (.Subscript e i pos) p := fun Q kk t => by
  obtain ⟨vs, n, eo, ev⟩ := own_list o
  obtain ⟨v, hv, pvv⟩ := map_pv_get ev hp
  have hl : h.IsList a vs := ⟨_, eo, rfl, n, rfl⟩
  refine Subscript_ ((x (fun v h' => v = .ref a ∧ h = h') fun v hv => ⟨pv_ref hv, rfl⟩).seq t fun u _ t1 q1 => ?_)
  obtain ⟨rfl, rfl⟩ := q1
  refine (y (fun v h' => (∃ u, v = .int k u) ∧ h = h') fun v hv => ⟨pv_int hv, rfl⟩).seq t1 fun u _ t2 q2 => ?_
  obtain ⟨⟨u, rfl⟩, rfl⟩ := q2
  exact tail_any hl.typeIs slot_list_getitem.lookup (wpAny_getItem_list hl h0 h1 hv ⟨_, _, rfl, kk v pvv⟩) (hs u)
theorem e_item_tup {e i : Expr} {pos : Pos} {a : Addr} {k : Int} {ps : List PV} {p : PV} (x : Pe C A env h e (.ref a)) (y : Pe C A env h i (.int k)) (o : Own h a (.tup ps)) (h0 : 0 ≤ k) (h1 : k < 2 ^ 63) (hp : ps[k.toNat]? = some p)
    (hs : ∀ u, subscripted i false (.ref a) (.int k u) = operate [.ref a, .int k u] (getItem (.ref a) (.int k u)) := by intro _; with_unfolding_all rfl) : Pe C A env h (.Subscript e i pos) p := fun Q kk t => by
  obtain ⟨_, eo, vs, n, rfl, ev⟩ := o
  obtain ⟨v, hv, pvv⟩ := map_pv_get ev hp
  have hl : IsTup h a vs.toList.toArray := ⟨_, eo, rfl, n, by simp⟩
  have hlt : k.toNat < ps.length := (List.getElem?_eq_some_iff.mp hp).1
  have hsz : vs.toList.length = ps.length := by rw [← ev, List.length_map]
  refine Subscript_ ((x (fun v h' => v = .ref a ∧ h = h') fun v hv => ⟨pv_ref hv, rfl⟩).seq t fun u _ t1 q1 => ?_)
  obtain ⟨rfl, rfl⟩ := q1
  refine (y (fun v h' => (∃ u, v = .int k u) ∧ h = h') fun v hv => ⟨pv_int hv, rfl⟩).seq t1 fun u _ t2 q2 => ?_
  obtain ⟨⟨u, rfl⟩, rfl⟩ := q2
  refine item_tupleT (j := k.toNat) hl (by lia) h1 ?_ (by simpa using hv) ⟨_, _, rfl, kk v pvv⟩ (hs u)
  have hk : ¬ k < 0 := by lia
  have hk2 : k < (vs.toList.length : Int) := by rw [hsz]; lia
  unfold seqIndex?
  simp only [hk, if_false]
  rw [if_pos (by simp only [Bool.and_eq_true, decide_eq_true_eq]; exact ⟨h0, hk2⟩)]

theorem x_setitem {e e1 e2 : Expr} {p1 pos : Pos} {rest : List Stmt} {a : Addr} {k : Int} {ps : List PV} {p : PV} {Q : Flow → Heap → Prop} (Z : St env h₀ l cs h) (x : Pe C A env h e p) (y : Pe C A env h e1 (.ref a)) (z : Pe C A env h e2 (.int k))
    (c : CAt cs a (.list ps)) (c' : CSet a (.list (ps.set k.toNat p)) cs cs') (h0 : 0 ≤ k) (h1 : k < ps.length) (h2 : k < 2 ^ 63)
    (kk : ∀ h', St env h₀ l cs' h' → Wp C A (execs rest env) Q h') (hs : swapsWith e (some (.Subscript e1 e2 p1)) pos.line env = Pure.pure false := by rfl) :
    Wp C A (execs (.Assign [.Subscript e1 e2 p1] e pos :: rest) env) Q h := by
  refine x_cons fun t => wpAny_Assign_Subscript ((x (fun v h' => pv v = p ∧ h = h') fun v hv => ⟨hv, rfl⟩).seq t fun v _ t1 q1 => ?_) hs
  obtain ⟨hv, rfl⟩ := q1
  refine (y (fun v h' => v = .ref a ∧ h = h') fun v hv => ⟨pv_ref hv, rfl⟩).seq t1 fun u _ t2 q2 => ?_
  obtain ⟨rfl, rfl⟩ := q2
  refine (z (fun v h' => (∃ u, v = .int k u) ∧ h = h') fun v hv => ⟨pv_int hv, rfl⟩).seq t2 fun u _ t3 q3 => ?_
  obtain ⟨⟨u, rfl⟩, rfl⟩ := q3
  obtain ⟨vs, n, eo, ev⟩ := own_list (Z.get c)
  have hsz : vs.size = ps.length := by rw [← ev, List.length_map]; simp
  refine ki_setAt eo h0 h2 (by lia) ⟨_, _, rfl, kk _ (Z.upd c' (Heap.SameBut.update ..) ?_)⟩
  refine ⟨_, Heap.get?_update_self _ eo rfl, vs.setIfInBounds k.toNat v, n, ?_, ?_⟩
  · simp [Obj.mapSeq]
  · simp only [Array.toList_setIfInBounds, List.map_set, ev, hv]

theorem w_len_list {a : Addr} {ps : List PV} {Q : Value → Heap → Prop} (o : Own h a (.list ps)) (hz : ps.length < 2 ^ 62) (k : ∀ v, pv v = .int ps.length → Q v h) : Wp C A (call (.builtin "len") [.ref a]) Q h := fun t => by
  obtain ⟨vs, n, eo, ev⟩ := own_list o
  have hsz : vs.size = ps.length := by rw [← ev, List.length_map]; simp
  exact len_list (⟨_, eo, rfl, n, rfl⟩ : h.IsList a vs) (by rw [hsz]; lia) ⟨_, _, rfl, k _ (by rw [hsz]; rfl)⟩
theorem e_len {x : Str} {p0 pos : Pos} {e : Expr} {a : Addr} {ps : List PV} (g : Gl C A env h x (.builtin "len")) (y : Pe C A env h e (.ref a)) (o : Own h a (.list ps)) (hz : ps.length < 2 ^ 62)
    (he : starEach [e] env = (false, eval e env) :: starEach [] env := by rfl) : Pe C A env h (.Call (.Name x p0) [e] [] pos) (.int ps.length) := fun Q k =>
  w_call_bi g (w_args_cons (y _ fun v hv => w_args_nil (by rw [pv_ref hv]; exact w_len_list o hz k)) he) he
end


inductive Wk : List (Str × Option PV) → List (Str × Option PV) → Prop
  | nil : Wk [] []
  | keep {y l l'} : Wk l l' → Wk (y :: l) (y :: l')
  | forget {x q l l'} : Wk l l' → Wk ((x, q) :: l) ((x, none) :: l')
theorem Wk.keys {l l' : List (Str × Option PV)} (w : Wk l l') : l'.map (·.1) = l.map (·.1) := by
  induction w with
  | nil => rfl
  | keep _ ih => simp [ih]
  | forget _ ih => simp [ih]
theorem Wk.mem {l l' : List (Str × Option PV)} (w : Wk l l') {x : Str} {p : PV} (m : (x, some p) ∈ l') : (x, some p) ∈ l := by
  induction w with
  | nil => exact m
  | keep _ ih =>
    rcases List.mem_cons.mp m with e | e
    · exact e ▸ .head _
    · exact .tail _ (ih e)
  | forget _ ih =>
    rcases List.mem_cons.mp m with e | e
    · cases e
    · exact .tail _ (ih e)
section
variable {C : Cx} {A : Around} {h h₀ h' : Heap} {env : Env} {l l' : List (Str × Option PV)} {cs cs' : List (Addr × AO)} {K : Frag}
theorem St.wk (Z : St env h₀ l cs h) (w : Wk l l') : St env h₀ l' cs h :=
  ⟨by obtain ⟨m, n, r⟩ := Z.loc; exact ⟨m, n, fun x p hx => r x p (w.mem hx)⟩, by rw [w.keys]; exact Z.lk, Z.keep, Z.low, Z.own, Z.fresh, Z.nd⟩
theorem keeps_hide (h : Heap) (a : Addr) : Keeps (h.hide a) h := fun _ _ e => Heap.of_hide e
theorem hide_keeps {h h' : Heap} {a : Addr} (k : Keeps h h') : Keeps (h.hide a) h' := (keeps_hide h a).trans k
theorem St.open (Z : St env h₀ l cs h) {a : Addr} {x : AO} (o : Own h₀ a x) : St env (h₀.hide a) l ((a, x) :: cs) h := by
  obtain ⟨ob, eo, hd⟩ := o
  refine ⟨Z.loc, Z.lk, hide_keeps Z.keep, ?_, fun p hp => ?_, fun p hp => ?_, ?_⟩
  · cases q : (h₀.hide a).get? env.locals with
    | none => rfl
    | some o' => have := keeps_hide h₀ a _ _ q; rw [Z.low] at this; cases this
  · rcases List.mem_cons.mp hp with rfl | hp
    · exact ⟨ob, Z.keep _ _ eo, hd⟩
    · exact Z.own p hp
  · rcases List.mem_cons.mp hp with rfl | hp
    · exact Heap.hide_self h₀ a
    · cases q : (h₀.hide a).get? p.1 with
      | none => rfl
      | some o' => have := keeps_hide h₀ a _ _ q; rw [Z.fresh p hp] at this; cases this
  · have nd := List.nodup_cons.mp Z.nd
    simp only [List.map_cons]
    refine List.nodup_cons.mpr ⟨fun m => ?_, List.nodup_cons.mpr ⟨fun m => ?_, nd.2⟩⟩
    · rcases List.mem_cons.mp m with e | e
      · have := Z.low; rw [e, eo] at this; cases this
      · exact nd.1 e
    · obtain ⟨⟨b, y⟩, hm, e⟩ := List.mem_map.mp m
      have := Z.fresh _ hm
      rw [show b = a from e, eo] at this; cases this
theorem St.turned (Z : St env h₀ l cs h) {a : Addr} {x : AO} (c : CSet a x cs cs') (k : Keeps (h.hide a) h') (o : Own h' a x) : St env h₀ l cs' h' := by
  have neL : a ≠ env.locals := fun e => by
    have := c.key
    rw [e] at this
    exact (List.nodup_cons.mp Z.nd).1 this
  have fr : h₀.get? a = none := by
    obtain ⟨⟨b, y⟩, m, e⟩ := List.mem_map.mp c.key
    cases e
    exact Z.fresh _ m
  have kk : ∀ b o, b ≠ a → h.get? b = some o → h'.get? b = some o := fun b o ne e => k b o ((Heap.hide_ne h ne).trans e)
  refine ⟨?_, Z.lk, fun b o e => ?_, Z.low, fun p hp => ?_, fun p hp => ?_, by rw [c.keys]; exact Z.nd⟩
  · obtain ⟨m, ⟨o, es, ep, eo, r1⟩, r⟩ := Z.loc
    exact ⟨m, ⟨o, es, ep, kk _ _ neL.symm eo, r1⟩, r⟩
  · exact kk b o (fun z => by rw [z, fr] at e; cases e) (Z.keep b o e)
  · rcases c.mem (List.nodup_cons.mp Z.nd).2 (b := p.1) (y := p.2) hp with ⟨e1, e2⟩ | ⟨ne, m⟩
    · rw [e1, e2]; exact o
    · obtain ⟨ob, eo, d⟩ := Z.own _ m
      exact ⟨ob, kk _ _ ne eo, d⟩
  · have : p.1 ∈ cs.map (·.1) := by rw [← c.keys]; exact List.mem_map.mpr ⟨p, hp, rfl⟩
    obtain ⟨q, m, e⟩ := List.mem_map.mp this
    rw [← e]; exact Z.fresh _ m
theorem St.mem_key (Z : St env h₀ l cs h) {a : Addr} {x : AO} (c : CAt cs a x) : h₀.get? a = none := Z.fresh _ c.mem
theorem St.keepHide (Z : St env h₀ l cs h) {a : Addr} {x : AO} (c : CAt cs a x) : Keeps h₀ (h.hide a) := fun b o e => by
  have ne : b ≠ a := fun z => by rw [z, Z.mem_key c] at e; cases e
  exact (Heap.hide_ne h ne).trans (Z.keep b o e)
end

noncomputable def Sx (X : Heap → Prop) (Q : Flow → Heap → Prop) : Flow → Heap → Prop := fun f h' => match f with
  | .next => X h'
  | f => Q f h'
section
variable {C : Cx} {A : Around} {h h₀ h' : Heap} {env : Env} {l l' : List (Str × Option PV)} {cs cs' : List (Addr × AO)} {K : Frag}
theorem sx_next {X : Heap → Prop} {Q : Flow → Heap → Prop} (k : X h) : Sx X Q .next h := k
theorem x_whileX {test : Expr} {body : List Stmt} {pos : Pos} {rest : List Stmt} {Q : Flow → Heap → Prop} (I : Nat → Heap → Prop) (X : Heap → Prop)
    (turn : ∀ n h, I n h → ∀ (R : Flow → Heap → Prop) (Y : Heap → Prop), (∀ {f h'}, Lp (fun h3 => ∃ m, m < n ∧ I m h3) (Sx X Q) f h' → R f h') → (∀ {h'}, X h' → Y h') → Wp C A (isTrue test env (eval test env)) (fun b h2 => if b then Wp C A (execs body env) R h2 else Y h2) h)
    (n : Nat) (h0 : I n h) (k : ∀ h', X h' → Wp C A (execs rest env) Q h') : Wp C A (execs (.While test body [] pos :: rest) env) Q h :=
  x_while I (fun n h hi => (turn n h hi _ _ (fun {_ _} z => z) (fun {_} z => z)).mono fun b h2 q => by
    cases b with
    | false => simp only [Bool.false_eq_true, if_false] at q ⊢; exact k h2 q
    | true =>
      simp only [if_true] at q ⊢
      refine q.mono fun f h3 q3 => ?_
      cases f with
      | next => exact q3
      | cont => exact q3
      | brk => exact k h3 q3
      | ret v => exact q3) n h0
theorem x_forX {target iter : Expr} {body : List Stmt} {pos : Pos} {rest : List Stmt} {Q : Flow → Heap → Prop} (X : Heap → Prop)
    (x : ∀ S : Flow → Heap → Prop, (∀ {f h'}, Sx X Q f h' → S f h') → Wp C A (eval iter env) (fun v h1 => Wp C A (pyIter v) (fun it h2 => Cp C A (.forLoop target it body [] env) S h2) h1) h)
    (k : ∀ h', X h' → Wp C A (execs rest env) Q h')
    (hs : ∀ x, foldedSetIterable iter env x = Pure.pure x := by intro _; rfl) : Wp C A (execs (.For target iter body [] pos :: rest) env) Q h :=
  x_for ((x _ (fun {_ _} z => z)).mono fun v h1 q1 => q1.mono fun it h2 q2 => q2.mono fun f h3 q3 => by
    cases f with
    | next => exact k h3 q3
    | cont => exact q3
    | brk => exact q3
    | ret v => exact q3) hs
end

theorem blk {p : Prop} (h : p) : p := h
noncomputable def sdown (b : PV → PV → Bool) (start : Nat) (x : PV) : Nat → List PV → Nat → List PV
  | 0, xs, pos => xs.set pos x
  | n + 1, xs, pos => if start < pos ∧ b (xs.getD ((pos - 1) / 2) .none) x = true then sdown b start x n (xs.set pos (xs.getD ((pos - 1) / 2) .none)) ((pos - 1) / 2) else xs.set pos x
theorem sdown_length (b : PV → PV → Bool) (start : Nat) (x : PV) : ∀ n xs pos, (sdown b start x n xs pos).length = xs.length
  | 0, xs, pos => by simp [sdown]
  | n + 1, xs, pos => by
    unfold sdown
    split
    · rw [sdown_length]; simp
    · simp
theorem sdown_fuel (b : PV → PV → Bool) (start : Nat) (x : PV) : ∀ n m xs pos, pos ≤ n → pos ≤ m → sdown b start x n xs pos = sdown b start x m xs pos
  | 0, 0, _, _, _, _ => rfl
  | 0, m + 1, xs, pos, h, _ => by
    obtain rfl : pos = 0 := by lia
    unfold sdown; rw [if_neg (by lia)]
  | n + 1, 0, xs, pos, _, h => by
    obtain rfl : pos = 0 := by lia
    unfold sdown; rw [if_neg (by lia)]
  | n + 1, m + 1, xs, pos, h1, h2 => by
    unfold sdown
    split
    · exact sdown_fuel b start x n m _ _ (by lia) (by lia)
    · rfl
theorem sdown_go {b : PV → PV → Bool} {start : Nat} {x : PV} {xs : List PV} {pos : Nat} (h : start < pos) (e : b (xs.getD ((pos - 1) / 2) .none) x = true) :
    sdown b start x pos xs pos = sdown b start x ((pos - 1) / 2) (xs.set pos (xs.getD ((pos - 1) / 2) .none)) ((pos - 1) / 2) := by
  obtain ⟨m, rfl⟩ : ∃ m, pos = m + 1 := ⟨pos - 1, by lia⟩
  conv => lhs; unfold sdown
  rw [if_pos ⟨h, e⟩]
  exact sdown_fuel _ _ _ _ _ _ _ (by lia) (Nat.le_refl _)
theorem sdown_stop {b : PV → PV → Bool} {start : Nat} {x : PV} {xs : List PV} {pos : Nat} (h : ¬ start < pos ∨ b (xs.getD ((pos - 1) / 2) .none) x = false) : sdown b start x pos xs pos = xs.set pos x := by
  cases pos with
  | zero => rfl
  | succ m =>
    unfold sdown
    rw [if_neg]
    rintro ⟨a, c⟩
    rcases h with h | h
    · exact h a
    · rw [h] at c; cases c
theorem getD_at {xs : List PV} {i : Nat} (h : i < xs.length) : xs[(i : Int).toNat]? = some (xs.getD i .none) := by
  rw [Int.toNat_natCast, List.getD_eq_getElem?_getD, List.getElem?_eq_getElem h]; rfl
theorem getD_mem {xs : List PV} {i : Nat} (h : i < xs.length) : xs.getD i .none ∈ xs := by
  rw [List.getD_eq_getElem?_getD, List.getElem?_eq_getElem h]; exact List.getElem_mem _
theorem half_int {p : Nat} (h : 0 < p) : (((p : Int) - 1).fdiv (2 ^ (1 : Int).toNat)) = (((p - 1) / 2 : Nat) : Int) := by
  have : (2 : Int) ^ (1 : Int).toNat = 2 := by decide
  rw [this, Int.fdiv_eq_ediv_of_nonneg _ (by decide)]
  lia
section
variable {C : Cx} {A : Around} {h h₀ h' : Heap} {env : Env} {l l' : List (Str × Option PV)} {cs cs' : List (Addr × AO)} {K : Frag}
theorem x_expr {e : Expr} {pos : Pos} {rest : List Stmt} {Q : Flow → Heap → Prop} (x : Wp C A (eval e env) (fun v h1 => (∀ a, v ≠ .ref a) ∧ Wp C A (execs rest env) Q h1) h)
    (hi : interactive env = false := by rfl) (hs : swapsWith e none pos.line env = Pure.pure false := by rfl) : Wp C A (execs (.Expr e pos :: rest) env) Q h :=
  x_cons fun t => wpAny_Expr (x.seq t fun v _ t' q => by
    obtain ⟨ne, q⟩ := q
    cases v <;> first | exact absurd rfl (ne _) | exact ⟨_, _, rfl, q⟩) hi hs
theorem x_call {x : Str} {p0 p1 pos : Pos} {es : List Expr} {e : Expr} {r : List Expr} {ps : List PV} {f : Addr} {rest : List Stmt} {Q : Flow → Heap → Prop} (g : Gl C A env h x (.ref f)) (hf : FnAt f h) (y : Ps C A env h es ps) (hes : es = e :: r)
    (k : ∀ vs, vs.map pv = ps → Cp C A (.call (.ref f) ⟨vs, []⟩) (fun fl h' => ∃ v, fl = .ret v ∧ ((∀ a, v ≠ .ref a) ∧ Wp C A (execs rest env) Q h')) h)
    (hi : interactive env = false) (hs : swapsWith (.Call (.Name x p0) es [] p1) none pos.line env = Pure.pure false := by rfl)
    (he : starEach (e :: r) env = (false, eval e env) :: starEach r env := by rfl) (hp : (backTo p1 (starEach r env)).any (·.1) = false := by rfl) :
    Wp C A (execs (.Expr (.Call (.Name x p0) es [] p1) pos :: rest) env) Q h := by
  subst hes
  exact x_expr (w_call_fn g hf (y p1 _ fun vs hv => ⟨hf, k vs hv⟩) he hp) hi hs
theorem w_call {x : Str} {p0 p1 : Pos} {e : Expr} {r : List Expr} {ps : List PV} {f : Addr} {Q : Value → Heap → Prop} (g : Gl C A env h x (.ref f)) (hf : FnAt f h) (y : Ps C A env h (e :: r) ps)
    (k : ∀ vs, vs.map pv = ps → Cp C A (.call (.ref f) ⟨vs, []⟩) (fun fl h' => ∃ v, fl = .ret v ∧ Q v h') h)
    (he : starEach (e :: r) env = (false, eval e env) :: starEach r env := by rfl) (hp : (backTo p1 (starEach r env)).any (·.1) = false := by rfl) :
    Wp C A (eval (.Call (.Name x p0) (e :: r) [] p1) env) Q h :=
  w_call_fn g hf (y p1 _ fun vs hv => ⟨hf, k vs hv⟩) he hp
end
theorem boot_len : bootBuiltins (Str.ofString "len") = some (.builtin "len") := by kernel_rfl

noncomputable def sup (c : PV → PV → Bool) : Nat → List PV → Nat → List PV × Nat
  | 0, xs, pos => (xs, pos)
  | n + 1, xs, pos =>
    if 2 * pos + 1 < xs.length then
      if 2 * pos + 2 < xs.length ∧ c (xs.getD (2 * pos + 1) .none) (xs.getD (2 * pos + 2) .none) = true then sup c n (xs.set pos (xs.getD (2 * pos + 2) .none)) (2 * pos + 2)
      else sup c n (xs.set pos (xs.getD (2 * pos + 1) .none)) (2 * pos + 1)
    else (xs, pos)
theorem sup_fuel (c : PV → PV → Bool) : ∀ n m xs pos, xs.length ≤ n + pos → xs.length ≤ m + pos → sup c n xs pos = sup c m xs pos
  | 0, 0, _, _, _, _ => rfl
  | 0, m + 1, xs, pos, h, _ => by unfold sup; rw [if_neg (by lia)]
  | n + 1, 0, xs, pos, _, h => by unfold sup; rw [if_neg (by lia)]
  | n + 1, m + 1, xs, pos, h1, h2 => by
    unfold sup
    split
    · split
      · exact sup_fuel c n m _ _ (by rw [List.length_set]; lia) (by rw [List.length_set]; lia)
      · exact sup_fuel c n m _ _ (by rw [List.length_set]; lia) (by rw [List.length_set]; lia)
    · rfl
noncomputable def siftup (b c : PV → PV → Bool) (xs : List PV) (pos : Nat) : List PV :=
  sdown b pos (xs.getD pos .none) (sup c xs.length xs pos).2 ((sup c xs.length xs pos).1.set (sup c xs.length xs pos).2 (xs.getD pos .none)) (sup c xs.length xs pos).2
theorem sup_right {c : PV → PV → Bool} {xs : List PV} {pos : Nat} (h : 2 * pos + 2 < xs.length) (e : c (xs.getD (2 * pos + 1) .none) (xs.getD (2 * pos + 2) .none) = true) :
    sup c xs.length xs pos = sup c (xs.set pos (xs.getD (2 * pos + 2) .none)).length (xs.set pos (xs.getD (2 * pos + 2) .none)) (2 * pos + 2) := by
  obtain ⟨m, hm⟩ : ∃ m, xs.length = m + 1 := ⟨xs.length - 1, by lia⟩
  conv => lhs; rw [hm]; unfold sup
  rw [if_pos (by lia), if_pos ⟨h, e⟩]
  exact sup_fuel _ _ _ _ _ (by rw [List.length_set]; lia) (by exact Nat.le_add_right _ _)
theorem sup_left {c : PV → PV → Bool} {xs : List PV} {pos : Nat} (h : 2 * pos + 1 < xs.length) (e : ¬ (2 * pos + 2 < xs.length ∧ c (xs.getD (2 * pos + 1) .none) (xs.getD (2 * pos + 2) .none) = true)) :
    sup c xs.length xs pos = sup c (xs.set pos (xs.getD (2 * pos + 1) .none)).length (xs.set pos (xs.getD (2 * pos + 1) .none)) (2 * pos + 1) := by
  obtain ⟨m, hm⟩ : ∃ m, xs.length = m + 1 := ⟨xs.length - 1, by lia⟩
  conv => lhs; rw [hm]; unfold sup
  rw [if_pos h, if_neg e]
  exact sup_fuel _ _ _ _ _ (by rw [List.length_set]; lia) (by exact Nat.le_add_right _ _)
theorem sup_stop {c : PV → PV → Bool} {xs : List PV} {pos : Nat} (h : ¬ 2 * pos + 1 < xs.length) : sup c xs.length xs pos = (xs, pos) := by
  cases hx : xs.length with
  | zero => rfl
  | succ m => unfold sup; rw [if_neg h]
section
variable {C : Cx} {A : Around} {h h₀ h' : Heap} {env : Env} {l l' : List (Str × Option PV)} {cs cs' : List (Addr × AO)} {K : Frag}
theorem t_and2 {a b : Expr} {pos : Pos} {b1 b2 : Bool} (x : Pt C A env h a b1) (y : b1 = true → Pt C A env h b b2) : Pt C A env h (.BoolOp .And [a, b] pos) (b1 && b2) := by
  cases b1 with
  | false => exact t_all (all_and_f x)
  | true =>
    refine t_all (all_and_t x ?_)
    have yy := y rfl
    cases b2 with
    | false => exact all_and_f yy
    | true => exact all_and_t yy all_and_nil
theorem x_ifJ {test : Expr} {body orelse : List Stmt} {pos : Pos} {rest : List Stmt} {b : Bool} {Q : Flow → Heap → Prop} (J : Heap → Prop) (x : Pt C A env h test b)
    (kt : ∀ S : Flow → Heap → Prop, (∀ {f h'}, Sx J Q f h' → S f h') → b = true → Wp C A (execs body env) S h) (kf : ∀ S : Flow → Heap → Prop, (∀ {f h'}, Sx J Q f h' → S f h') → b = false → Wp C A (execs orelse env) S h) (k : ∀ h', J h' → Wp C A (execs rest env) Q h') : Wp C A (execs (.If test body orelse pos :: rest) env) Q h :=
  x_if x (fun e => (kt _ (fun {_ _} z => z) e).mono fun f h' q => by cases f <;> first | exact k h' q | exact q) (fun e => (kf _ (fun {_ _} z => z) e).mono fun f h' q => by cases f <;> first | exact k h' q | exact q)
end

noncomputable def rngO (a b c : Int) : AO := .obj fun o => ∃ t u v, o = { cls := .type "range", dict := none, data := .fields #[.int a t, .int b u, .int c v], slots := #[] }
noncomputable def ritO (x left step : Int) : AO := .raw { cls := .type "range_iterator", dict := none, data := .fields #[rawInt x, rawInt left, rawInt step], slots := #[] }
section
variable {C : Cx} {A : Around} {h h₀ h' : Heap} {env : Env} {l l' : List (Str × Option PV)} {cs cs' : List (Addr × AO)} {K : Frag}
theorem St.ext {it : Addr} {x : AO} (Z : St env h₀ l ((it, x) :: cs) h) (e : Heap.ExtBut it h h') : St env h₀ l cs h' := by
  have nd := Z.nd
  simp only [List.map_cons] at nd
  obtain ⟨n1, n2⟩ := List.nodup_cons.mp nd
  obtain ⟨n3, n4⟩ := List.nodup_cons.mp n2
  refine ⟨?_, Z.lk, fun b o q => e b o (fun z => ?_) (Z.keep b o q), Z.low, fun p hp => ?_, fun p hp => Z.fresh p (.tail _ hp), List.nodup_cons.mpr ⟨fun m => n1 (.tail _ m), n4⟩⟩
  · obtain ⟨m, n, r⟩ := Z.loc
    exact ⟨m, n.extBut e (fun z => n1 (z ▸ .head _)), r⟩
  · have := Z.fresh _ (.head _); rw [show (it, x).1 = b from z.symm, q] at this; cases this
  · obtain ⟨o, eo, d⟩ := Z.own p (.tail _ hp)
    exact ⟨o, e _ _ (fun z => n3 (z ▸ List.mem_map.mpr ⟨p, hp, rfl⟩)) eo, d⟩
theorem next_range {it : Addr} {x left step : Int} {Q : Option Value → Heap → Prop} (Z : St env h₀ l cs h) (c : CAt cs it (ritO x left step)) (c' : CSet it (ritO (x + step) (left - 1) step) cs cs') (hl : 0 < left)
    (k : ∀ v h', pv v = .int x → St env h₀ l cs' h' → Q (some v) h') : Wp C A (pyNext (.ref it)) Q h := fun t => by
  obtain ⟨o, eo, rfl⟩ := Z.get c
  exact wpAny_pyNext_range_item eo hl fun h' hi hs => ⟨_, _, rfl, k _ h' rfl (Z.upd c' hs ⟨_, hi, rfl⟩)⟩
theorem next_range_end {it : Addr} {x left step : Int} {Q : Option Value → Heap → Prop} (hh : A.handled = none) (Z : St env h₀ l ((it, ritO x left step) :: cs) h) (hl : left ≤ 0)
    (k : ∀ h', St env h₀ l cs h' → Q none h') : Wp C A (pyNext (.ref it)) Q h := fun t => by
  obtain ⟨o, eo, rfl⟩ := Z.get .here
  exact wpAny_pyNext_range_end hh eo hl fun h' he => ⟨_, _, rfl, k h' (Z.ext he)⟩
theorem w_forN {x : Str} {p1 : Pos} {body : List Stmt} {it : Value} {Q : Flow → Heap → Prop} (n : Nat) (I : Nat → Heap → Prop)
    (turn : ∀ i h, i < n → I i h → ∀ R : Flow → Heap → Prop, (∀ {f h'}, Lp (I (i + 1)) Q f h' → R f h') → Wp C A (pyNext it) (fun r h1 => ∃ v, r = some v ∧ Wp C A (storeName env x v) (fun _ h2 => Wp C A (execs body env) R h2) h1) h)
    (fin : ∀ h, I n h → Wp C A (pyNext it) (fun r h1 => r = none ∧ Q .next h1) h) (h0 : I 0 h) : Cp C A (.forLoop (.Name x p1) it body [] env) Q h :=
  w_for n I (fun i h hi q R kR => (turn i h hi q R kR).mono fun r h1 ⟨v, e, q1⟩ => ⟨v, e, Wp.pure (Wp.bind (Wp.standAt fun t => wpAny_bindName (q1 t)))⟩) fin h0

theorem w_range1 {v : Value} {n : Int} {Q : Value → Heap → Prop} (Z : St env h₀ l cs h) (hv : pv v = .int n) (k : ∀ a h', St env h₀ l ((a, rngO 0 n 1) :: cs) h' → Q (.ref a) h') : Wp C A (call (.type "range") [v]) Q h := fun t => by
  obtain ⟨u, rfl⟩ := pv_int hv
  exact call_range_1 ⟨_, _, rfl, k _ _ (Z.push ⟨_, _, _, rfl⟩)⟩
theorem w_range3 {v w x : Value} {m n c : Int} {Q : Value → Heap → Prop} (Z : St env h₀ l cs h) (hv : pv v = .int m) (hw : pv w = .int n) (hx : pv x = .int c) (hc : c ≠ 0) (hs : c.natAbs < 1073741824)
    (k : ∀ a h', St env h₀ l ((a, rngO m n c) :: cs) h' → Q (.ref a) h') : Wp C A (call (.type "range") [v, w, x]) Q h := fun t => by
  obtain ⟨u, rfl⟩ := pv_int hv
  obtain ⟨u', rfl⟩ := pv_int hw
  obtain ⟨u'', rfl⟩ := pv_int hx
  exact call_range_3 hc ⟨_, _, rfl, k _ _ (Z.push ⟨_, _, _, rfl⟩)⟩ (.inl (PyProof.noPylong_small hs))
theorem w_iter_range {r : Addr} {a b c : Int} {Q : Value → Heap → Prop} (Z : St env h₀ l cs h) (o : Own h r (rngO a b c)) (hs : Builtin.Range.small a b c = true) (k : ∀ it h', St env h₀ l ((it, ritO a (Builtin.Range.rangeSize a b c) c) :: cs) h' → Q (.ref it) h') :
    Wp C A (pyIter (.ref r)) Q h := fun t => by
  obtain ⟨o, eo, _, _, _, rfl⟩ := o
  exact wpAny_pyIter_range eo hs ⟨_, _, rfl, k _ _ (Z.push rfl)⟩
theorem w_iter_rit {it : Addr} {x left step : Int} {Q : Value → Heap → Prop} (o : Own h it (ritO x left step)) (k : Q (.ref it) h) : Wp C A (pyIter (.ref it)) Q h := fun t => by
  obtain ⟨o, eo, rfl⟩ := o
  exact wpAny_pyIter_rangeiter eo ⟨_, _, rfl, k⟩
theorem sub_rit_reversed : isSubtype (.type "range_iterator") (.type "reversed") = Pure.pure false := by rw [isSubtype_type]; kernel_rfl
theorem rangeSize_up (n : Int) (hn : 0 ≤ n) : Builtin.Range.rangeSize 0 n 1 = n := by
  unfold Builtin.Range.rangeSize
  simp
  lia
theorem w_reversed {r : Addr} {n : Int} {Q : Value → Heap → Prop} (Z : St env h₀ l cs h) (o : Own h r (rngO 0 n 1)) (hn : 0 ≤ n) (hs : n < 2 ^ 31) (k : ∀ it h', St env h₀ l ((it, ritO (n - 1) n (-1)) :: cs) h' → Q (.ref it) h') :
    Wp C A (call (.type "reversed") [.ref r]) Q h := fun t => by
  obtain ⟨o, eo, _, _, _, rfl⟩ := o
  have hT : (C.st h t).TypeIs (.ref r) "range" := ⟨_, eo, rfl⟩
  have hsz := rangeSize_up n hn
  refine callType_other (U := "range_iterator") (Q₁ := fun obj s₁ => obj = .ref h.objs.size ∧ s₁ = C.st (h.push { cls := .type "range_iterator", dict := none, data := .fields #[rawInt (n - 1), rawInt n, rawInt (-1)], slots := #[] }) t)
    (by decide +kernel) F.create_reversed ⟨_, _, F.mro_reversed⟩ F.made_reversed sub_rit_reversed (F.typeCall_reversed_1 _) ?_ ?_
  · refine codeAny_of_tree ?_
    show wpAny _ _ (do checkBuiltinCall "reversed.__new__" ⟨[.type "reversed", .ref r], []⟩; again (.builtin "reversed.__new__" ⟨[.type "reversed", .ref r], []⟩)) _ _ _
    refine wpAny_bind (wpAny_of_eq (F.newCall_reversed_1 _) (wpAny_pure ⟨plainId_quiet F.plain_reversed_new _, codeAny_builtin F.entry_reversed_new ?_⟩))
    rw [Around.under_plainId F.plain_reversed_new _]
    unfold Builtin.«reversed.__new__»
    refine wpAny_bind (wpAny_of_eq (newClass_reversed _) ?_)
    refine wpAny_bind (wpAny_of_eq (a := ()) (by first | rfl | kernel_rfl) ?_)
    refine wpAny_bind (wpAny_of_eq (a := ()) (by first | rfl | kernel_rfl) ?_)
    refine wpAny_bind (wpAny_specialOf hT F.slot_range_reversed.lookup ?_)
    refine wpAny_bind (wpAny_of_eq (F.slot_range_reversed.bind _) ?_)
    show wpAny _ _ (if (Value.builtin "range.__reversed__" == Value.none) = true then _ else _) _ _ _
    rw [if_neg (show ¬ ((Value.builtin "range.__reversed__" == Value.none) = true) from Bool.false_ne_true)]
    refine wpAny_bind (wpAny_rule ?_)
    refine wpAny_bind (m := runValue (.call (.builtin "range.__reversed__") ⟨[.ref r], []⟩)) (show wpAny _ _ (call (.builtin "range.__reversed__") [.ref r]) _ _ _ from ?_)
    refine wpAny_call_entry F.slot_range_reversed hT F.entry_range_reversed ?_ (F.args_range_reversed_1 _)
    unfold Builtin.«range.__reversed__»
    refine wpAny_bind (wpAny_of_eq (a := Value.ref r) rfl ?_)
    have fl : ∀ i : Int, -(2 ^ 62) < i → i < 2 ^ 62 → Builtin.Range.rangeFitsLong i = true := fun i a b => by
      unfold Builtin.Range.rangeFitsLong
      simp only [Bool.and_eq_true, decide_eq_true_eq]; lia
    refine wpAny_bind (m := Builtin.Range.rangeFields (.ref r)) ?_
    unfold Builtin.Range.rangeFields
    refine wpAny_bind (wpAny_field eo rfl (x := Value.int 0 _) rfl (wpAny_bind (wpAny_of_eq (a := some 0) rfl ?_)))
    refine wpAny_bind (wpAny_field eo rfl (x := Value.int n _) rfl (wpAny_bind (wpAny_of_eq (a := some n) rfl ?_)))
    refine wpAny_bind (wpAny_field eo rfl (x := Value.int 1 _) rfl (wpAny_bind (wpAny_of_eq (a := some 1) rfl ?_)))
    refine wpAny_pure ?_
    show wpAny _ _ (if (!(Builtin.Range.rangeFitsLong 0 && Builtin.Range.rangeFitsLong n && Builtin.Range.rangeFitsLong 1 && Builtin.Range.rangeFitsLong (-1) && Builtin.Range.rangeFitsLong (0 - 1) && Builtin.Range.rangeFitsLong (Builtin.Range.rangeSize 0 n 1))) = true then _ else _) _ _ _
    rw [hsz, fl 0 (by lia) (by lia), fl n (by lia) (by lia), fl 1 (by lia) (by lia), fl (-1) (by lia) (by lia), fl (0 - 1) (by lia) (by lia)]
    rw [if_neg (by decide)]
    refine wpAny_bind (m := newFields _ _) ?_
    have e1 : (0 : Int) + (n - 1) * 1 = n - 1 := by lia
    rw [e1]
    refine wpAny_newObj_type (wpAny_pure ⟨_, rfl, wpAny_pure ⟨rfl, rfl⟩⟩) (by size_fits)
  · rintro obj s₁ ⟨rfl, rfl⟩
    exact ⟨⟨_, Heap.get?_push_size _ rfl, rfl⟩, _, _, rfl, k _ _ (Z.push rfl)⟩
end
section
variable {C : Cx} {A : Around} {h h₀ h' : Heap} {env : Env} {l l' : List (Str × Option PV)} {cs cs' : List (Addr × AO)} {K : Frag}
theorem Pe.use {e : Expr} {p : PV} {Q : Value → Heap → Prop} (x : Pe C A env h e p) (k : ∀ v, pv v = p → Q v h) : Wp C A (eval e env) Q h := x Q k
theorem St.swap {c d : Addr × AO} (Z : St env h₀ l (c :: d :: cs) h) : St env h₀ l (d :: c :: cs) h :=
  ⟨Z.loc, Z.lk, Z.keep, Z.low, fun p hp => Z.own p (by rcases List.mem_cons.mp hp with e | hp; exact e ▸ .tail _ (.head _); rcases List.mem_cons.mp hp with e | hp; exact e ▸ .head _; exact .tail _ (.tail _ hp)),
    fun p hp => Z.fresh p (by rcases List.mem_cons.mp hp with e | hp; exact e ▸ .tail _ (.head _); rcases List.mem_cons.mp hp with e | hp; exact e ▸ .head _; exact .tail _ (.tail _ hp)), by
    have nd := Z.nd
    simp only [List.map_cons] at nd ⊢
    exact (((List.Perm.swap _ _ _).cons _).nodup_iff).mp nd⟩
end
theorem boot_range : bootBuiltins (Str.ofString "range") = some (.type "range") := by kernel_rfl
theorem boot_reversed : bootBuiltins (Str.ofString "reversed") = some (.type "reversed") := by kernel_rfl

noncomputable def bitO (b : Array UInt8) (i : Nat) : AO := .obj fun o => ∃ t, o.cls = .type "bytes_iterator" ∧ o.data = .fields #[.bytes b t, .int i 0]
section
variable {C : Cx} {A : Around} {h h₀ h' : Heap} {env : Env} {l l' : List (Str × Option PV)} {cs cs' : List (Addr × AO)} {K : Frag}
theorem w_type {v : Value} {T : String} {Q : Value → Heap → Prop} (hT : ∀ t, (C.st h t).TypeIs v T) (hnb : (Value.type T == Value.type "builtin_function_or_method") = false) (k : Q (.type T) h) : Wp C A (call (.type "type") [v]) Q h :=
  fun t => call_type_of (hT t) hnb ⟨_, _, rfl, k⟩
theorem c_is_typ {a b : String} {d : Bool} (e : (Value.type a == Value.type b) = d) (hp : plainIs (.type a) (.type b) = true) : Cm C A h .Is (.typ a) (.typ b) d := fun u v hu hv Q k t => by
  obtain rfl := pv_typ hu; obtain rfl := pv_typ hv
  exact wpAny_is_plain hp ⟨_, _, rfl, by rw [e]; exact k⟩
theorem w_iter_bytes {v : Value} {b : Array UInt8} {Q : Value → Heap → Prop} (Z : St env h₀ l cs h) (hv : pv v = .bytes b) (k : ∀ it h', St env h₀ l ((it, bitO b 0) :: cs) h' → Q (.ref it) h') : Wp C A (pyIter v) Q h := fun t => by
  obtain ⟨u, rfl⟩ := pv_bytes hv
  exact KBw.pyIter_bytes ⟨_, _, rfl, k _ _ (Z.push ⟨u, rfl, rfl⟩)⟩
theorem next_bytes {it : Addr} {b : Array UInt8} {i : Nat} {n : Int} {Q : Option Value → Heap → Prop} (Z : St env h₀ l cs h) (c : CAt cs it (bitO b i)) (c' : CSet it (bitO b (i + 1)) cs cs') (hn : (KBw.bInts b)[i]? = some n)
    (k : ∀ v h', pv v = .int n → St env h₀ l cs' h' → Q (some v) h') : Wp C A (pyNext (.ref it)) Q h := fun t => by
  obtain ⟨o, eo, u, e1, e2⟩ := Z.get c
  have : ∃ c : UInt8, b[i]? = some c ∧ n = (c.toNat : Int) := by
    unfold KBw.bInts at hn
    cases q : b[i]? with
    | none => simp [q] at hn
    | some c => simp [q] at hn; exact ⟨c, rfl, hn.symm⟩
  obtain ⟨c, hc, rfl⟩ := this
  refine KBw.next_item ⟨o, eo, e1, e2⟩ hc fun h' hi hs => ⟨_, _, rfl, k _ h' rfl (Z.upd c' hs ?_)⟩
  obtain ⟨o', eo', e1', e2'⟩ := hi
  exact ⟨o', eo', u, e1', e2'⟩
theorem next_bytes_end {it : Addr} {b : Array UInt8} {i : Nat} {Q : Option Value → Heap → Prop} (hh : A.handled = none) (Z : St env h₀ l ((it, bitO b i) :: cs) h) (hi : b.size ≤ i)
    (k : ∀ h', St env h₀ l cs h' → Q none h') : Wp C A (pyNext (.ref it)) Q h := fun t => by
  obtain ⟨o, eo, u, e1, e2⟩ := Z.get .here
  exact KBw.next_end hh ⟨o, eo, e1, e2⟩ (by simp [hi]) fun h' he => ⟨_, _, rfl, k h' (Z.ext he)⟩
theorem w_newList {vs : List Value} {Q : Value → Heap → Prop} (Z : St env h₀ l cs h) (hz : vs.length ≤ sizeLine) (k : ∀ a h', St env h₀ l ((a, .list (vs.map pv)) :: cs) h' → Q (.ref a) h') : Wp C A (newList vs) Q h := fun t =>
  wpAny_newObj_type ⟨_, _, rfl, k _ _ (Z.push ⟨_, _, rfl, by simp⟩)⟩ (by show vs.toArray.size ≤ sizeLine; rw [List.size_toArray]; exact hz)
theorem w_newTuple {vs : List Value} {Q : Value → Heap → Prop} (Z : St env h₀ l cs h) (hz : vs.length ≤ sizeLine) (k : ∀ a h', St env h₀ l ((a, .tup (vs.map pv)) :: cs) h' → Q (.ref a) h') : Wp C A (newTuple vs) Q h := fun t =>
  wpAny_newObj_type ⟨_, _, rfl, k _ _ (Z.push ⟨_, _, rfl, by simp⟩)⟩ (by show vs.toArray.size ≤ sizeLine; rw [List.size_toArray]; exact hz)
theorem w_List {es : List Expr} {pos : Pos} {Q : Value → Heap → Prop} (x : Wp C A (spliced (backTo pos (starEach es env))) (fun vs h1 => Wp C A (newList vs) Q h1) h) : Wp C A (eval (.List es pos) env) Q h :=
  fun t => List_ (x.seq t fun _ _ t1 q => q t1)
theorem w_Tuple {es : List Expr} {n : Nat} {pos : Pos} {Q : Value → Heap → Prop} (x : Wp C A (spliced (backTo pos (starEach es env))) (fun vs h1 => Wp C A (newTuple vs) Q h1) h) : Wp C A (eval (.Tuple es n pos) env) Q h :=
  fun t => Tuple_ (x.seq t fun _ _ t1 q => q t1)
theorem w_meth1 {o e : Expr} {name : Str} {apos pos : Pos} {T id : String} {ov : Value} {Q : Value → Heap → Prop} (x : Pe C A env h o (pv ov)) (hx : ∀ u, pv u = pv ov → u = ov)
    (pa : PlainAttrs T) (sl : Slot T name id) (ty : typeOf (.builtin id) = Pure.pure (.type "method_descriptor")) (hT : ∀ t, (C.st h t).TypeIs ov T) (hd : ∀ a, ov = .ref a → ∃ ob, h.get? a = some ob ∧ ob.dict = none)
    (y : Wp C A (eval e env) (fun v h1 => Wp C A (call (.builtin id) [ov, v]) Q h1) h)
    (hbase : attributeBase o name env (eval o env) = eval o env := by rfl) (hs : starEach [e] env = [(false, eval e env)] := by rfl) (hline : (apos.endLine == pos.line) = true := by rfl) :
    Wp C A (eval (.Call (.Attribute o name apos) [e] [] pos) env) Q h := fun t => by
  refine Call_method1 hbase hs hline ((x (fun v h' => v = ov ∧ h = h') fun v hv => ⟨hx v hv, rfl⟩).seq t fun u _ t1 q1 => ?_)
  obtain ⟨rfl, rfl⟩ := q1
  refine ⟨T, id, pa, sl, ty, hT t1, hd, ?_⟩
  refine Calls.callWith_builtin rfl (Calls.evalArgs_plain (Calls.spliced_cons (y.seq t1 fun v h2 t2 q2 => Calls.spliced_nil (q2 t2))))
theorem w_append {a : Addr} {ps : List PV} {v : Value} {p : PV} {Q : Value → Heap → Prop} (Z : St env h₀ l cs h) (hv : pv v = p) (c : CAt cs a (.list ps)) (c' : CSet a (.list (ps ++ [p])) cs cs') (hz : ps.length ≤ sizeLine)
    (k : ∀ h', St env h₀ l cs' h' → Q .none h') : Wp C A (call (.builtin "list.append") [.ref a, v]) Q h := fun t => by
  obtain ⟨vs, n, eo, ev⟩ := own_list (Z.get c)
  have hsz : vs.size = ps.length := by rw [← ev, List.length_map]; simp
  refine append_at eo (fun h' hs ho => ⟨_, _, rfl, k h' (Z.upd c' hs ⟨_, ho, _, _, rfl, by simp [ev, hv]⟩)⟩) (by rw [hsz]; exact hz)
theorem x_append {o e : Expr} {apos p1 pos : Pos} {a : Addr} {ps : List PV} {p : PV} {rest : List Stmt} {Q : Flow → Heap → Prop} (Z : St env h₀ l cs h) (x : Pe C A env h o (.ref a)) (y : Pe C A env h e p) (c : CAt cs a (.list ps)) (c' : CSet a (.list (ps ++ [p])) cs cs') (hz : ps.length ≤ sizeLine)
    (k : ∀ h', St env h₀ l cs' h' → Wp C A (execs rest env) Q h') (hi : interactive env = false) (hss : swapsWith (.Call (.Attribute o (Str.ofString "append") apos) [e] [] p1) none pos.line env = Pure.pure false := by rfl)
    (hbase : attributeBase o (Str.ofString "append") env (eval o env) = eval o env := by rfl) (hs : starEach [e] env = [(false, eval e env)] := by rfl) (hline : (apos.endLine == p1.line) = true := by rfl) :
    Wp C A (execs (.Expr (.Call (.Attribute o (Str.ofString "append") apos) [e] [] p1) pos :: rest) env) Q h := by
  obtain ⟨vs, n, eo, ev⟩ := own_list (Z.get c)
  refine x_expr (w_meth1 (ov := .ref a) x (fun u hu => pv_ref hu) F.plainAttrs_list slot_list_append F.type_list_append (fun t => ⟨_, eo, rfl⟩) (fun b e => ?_) ?_ hbase hs hline) hi hss
  · cases e; exact ⟨_, eo, rfl⟩
  · exact y _ fun v hv => w_append Z hv c c' hz fun h' Z' => ⟨(fun _ z => nomatch z), k h' Z'⟩
end
section
variable {C : Cx} {A : Around} {h h₀ h' : Heap} {env : Env} {l l' : List (Str × Option PV)} {cs cs' : List (Addr × AO)} {K : Frag}
theorem e_item_bytes {e i : Expr} {pos : Pos} {b : Array UInt8} {k n : Int} (x : Pe C A env h e (.bytes b)) (y : Pe C A env h i (.int k)) (hfit : (KBw.bInts b).length ≤ 1099511627776) (h0 : 0 ≤ k) (hn : (KBw.bInts b)[k.toNat]? = some n)
    (hs : ∀ t u, subscripted i false (.bytes b t) (.int k u) = operate [.bytes b t, .int k u] (getItem (.bytes b t) (.int k u)) := by intro _ _; with_unfolding_all rfl)
    (ht : ∀ t r, letTemporaryGo e (.bytes b t) r = Pure.pure () := by intro _ _; with_unfolding_all rfl) : Pe C A env h (.Subscript e i pos) (.int n) := fun Q kk t => by
  refine Subscript_ ((x (fun v h' => (∃ u, v = .bytes b u) ∧ h = h') fun v hv => ⟨pv_bytes hv, rfl⟩).seq t fun u _ t1 q1 => ?_)
  obtain ⟨⟨u, rfl⟩, rfl⟩ := q1
  refine (y (fun v h' => (∃ u, v = .int k u) ∧ h = h') fun v hv => ⟨pv_int hv, rfl⟩).seq t1 fun u' _ t2 q2 => ?_
  obtain ⟨⟨u', rfl⟩, rfl⟩ := q2
  have hlt := (List.getElem?_eq_some_iff.mp hn).1
  refine KBw.item_K rfl hfit h0 (by lia) (fun t' k' _ _ => ⟨_, _, rfl, kk _ ?_⟩) (hs u u') (ht u)
  rw [List.getD_eq_getElem?_getD, hn]; rfl
theorem ints_pv : ∀ {vs : List Value} {ns : List Int}, vs.map pv = ns.map PV.int → IntsAre vs ns
  | [], [], _ => .nil
  | v :: vs, n :: ns, e => by
    simp only [List.map_cons, List.cons.injEq] at e
    obtain ⟨u, rfl⟩ := pv_int e.1
    exact .cons n u (ints_pv e.2)
  | [], _ :: _, e => by simp at e
  | _ :: _, [], e => by simp at e
theorem w_bytes {a : Addr} {ns : List Int} {Q : Value → Heap → Prop} (hh : A.handled = none) (o : Own h a (.list (ns.map PV.int))) (hr : ∀ n ∈ ns, 0 ≤ n ∧ n < 256) (hz : ns.length ≤ sizeLine)
    (k : ∀ v h', pv v = .bytes (byteArr ns) → Keeps h h' → Q v h') : Wp C A (call (.type "bytes") [.ref a]) Q h := fun t => by
  obtain ⟨vs, n, eo, ev⟩ := own_list o
  have hl : (C.st h t).heap.IsList a vs.toList.toArray := ⟨_, eo, rfl, n, by simp⟩
  have hlen : vs.toList.length = ns.length := by have := congrArg List.length ev; simpa using this
  exact call_bytes_ints hl (ints_pv ev) hr (by rw [hlen]; exact hz) hh fun h' u t' kp => ⟨_, _, rfl, k _ _ rfl kp⟩
end
noncomputable def headLoad {α : Type} : Sem α → Option Addr
  | .load a _ _ => some a
  | _ => none
noncomputable def afterLoad {α : Type} : Sem α → Obj → Sem α
  | .load _ _ k, o => k o
  | t, _ => t
theorem head_load {α : Type} {T : Sem α} {a : Addr} (e : headLoad T = some a) : ∃ p k, T = .load a p k := by
  have n : (none : Option Addr) ≠ some a := fun z => nomatch z
  cases T <;> first | exact absurd (show (none : Option Addr) = some a from e) n | (have e := Option.some.inj (show some _ = some a from e); subst e; exact ⟨_, _, rfl⟩)
section
variable {C : Cx} {A : Around} {h h₀ h' : Heap} {env : Env} {l l' : List (Str × Option PV)} {cs cs' : List (Addr × AO)} {K : Frag}
theorem Bd.load {fd : FuncData} {vs : List Value} {kw : List (Str × Value)} {binds : List (Str × Value)} {a : Addr} {o : Obj} (ho : h.get? a = some o) (e1 : headLoad (bindArgs fd ⟨vs, kw⟩) = some a) (e2 : afterLoad (bindArgs fd ⟨vs, kw⟩) o = Pure.pure binds) : Bd C h fd vs kw binds := ⟨fun t M A E Q q => by
  obtain ⟨p, k, e⟩ := head_load e1
  rw [e] at e2 ⊢
  have : k o = Pure.pure binds := e2
  refine X.x_load' ho ?_
  rw [this]; exact wpAny_pure q⟩
where X.x_load' {α : Type} {M : Model} {A : Around} {E : Value → Shared → Prop} {s : Shared} {Q : α → Shared → Prop} {a : Addr} {q : Option Value} {k : Obj → Sem α} {o : Obj} (ho : s.heap.get? a = some o) (h : wpAny M A (k o) Q E s) : wpAny M A (.load a q k) Q E s :=
    wpAny_bind (m := loadPart a q) (f := k) (wpAny_loadPart ho h)
theorem w_call_kw {x : Str} {p0 pos : Pos} {e : Expr} {r : List Expr} {kws : List Keyword} {f : Addr} {Q : Value → Heap → Prop} (g : Gl C A env h x (.ref f)) (hf : FnAt f h)
    (hall : (backToKw pos (keywordEach kws env)).all (·.1.isSome) = true)
    (y : Wp C A (spliced (backTo pos (starEach (e :: r) env))) (fun vs h1 => Wp C A (evalAll ((backToKw pos (keywordEach kws env)).map (·.2))) (fun ks h2 => FnAt f h2 ∧ Cp C A (.call (.ref f) ⟨vs, ((backToKw pos (keywordEach kws env)).filterMap (·.1)).zip ks⟩) (fun fl h' => ∃ v, fl = .ret v ∧ Q v h') h2) h1) h)
    (he : starEach (e :: r) env = (false, eval e env) :: starEach r env := by rfl) (hp : (backTo pos (starEach r env)).any (·.1) = false := by rfl) :
    Wp C A (eval (.Call (.Name x p0) (e :: r) kws pos) env) Q h := fun t => by
  refine wpAny_Call_Name_kw ((g p0 (fun v h1 => v = .ref f ∧ h = h1) ⟨rfl, rfl⟩).seq t fun v _ t1 q1 => ?_)
  obtain ⟨rfl, rfl⟩ := q1
  rw [he] at y ⊢
  refine callWith_of (P := FnAt f) (first := []) ?_ keeps_F (evalArgs_kw hall (y.seq t1 fun vs h2 t2 q2 => q2.seq t2 fun ks h3 t3 q3 => ⟨q3.1, Wp.call q3.2 t3⟩))
  have e2 : (backToKw pos (keywordEach kws env)).any (·.1.isNone) = false := by
    rw [List.any_eq_false]
    intro z hz
    have := List.all_eq_true.mp hall z hz
    cases q : z.1 with
    | none => rw [q] at this; cases this
    | some _ => simp
  rw [e2]
  show ((false || (backTo pos (starEach r env)).any (·.1)) || false) = false
  rw [hp]; rfl
theorem w_evalAll_nil {Q : List Value → Heap → Prop} (k : Q [] h) : Wp C A (evalAll []) Q h := fun _ => wpAny_evalAll_nil ⟨_, _, rfl, k⟩
theorem w_evalAll_cons {T : Sem Value} {r : List (Sem Value)} {Q : List Value → Heap → Prop} (x : Wp C A T (fun v h1 => Wp C A (evalAll r) (fun vs h2 => Q (v :: vs) h2) h1) h) : Wp C A (evalAll (T :: r)) Q h :=
  fun t => wpAny_evalAll_cons (x.seq t fun _ _ t1 q => q.seq t1 fun _ _ _ q => ⟨_, _, rfl, q⟩)
end
theorem boot_type : bootBuiltins (Str.ofString "type") = some (.type "type") := by kernel_rfl
theorem boot_bytes : bootBuiltins (Str.ofString "bytes") = some (.type "bytes") := by kernel_rfl
theorem boot_bool : bootBuiltins (Str.ofString "bool") = some (.type "bool") := by kernel_rfl
theorem boot_str : bootBuiltins (Str.ofString "str") = some (.type "str") := by kernel_rfl
section
variable {C : Cx} {A : Around} {h h₀ h' : Heap} {env : Env} {l l' : List (Str × Option PV)} {cs cs' : List (Addr × AO)} {K : Frag}
theorem w_kw1 {nm : Str} {e : Expr} {kp pos : Pos} {Q : List Value → Heap → Prop} (x : Wp C A (eval e env) (fun v h1 => Q [v] h1) h) : Wp C A (evalAll ((backToKw pos (keywordEach [⟨some nm, e, kp⟩] env)).map (·.2))) Q h := by
  show Wp C A (evalAll [do let v ← eval e env; PySem.standAt pos; Pure.pure v]) Q h
  exact w_evalAll_cons (Wp.bind (x.mono fun v h1 q => Wp.bind (Wp.standAt (Wp.pure (w_evalAll_nil q)))))
theorem w_IfExp {test a b : Expr} {pos : Pos} {c : Bool} {Q : Value → Heap → Prop} (x : Pt C A env h test c) (kt : c = true → Wp C A (eval a env) Q h) (kf : c = false → Wp C A (eval b env) Q h) : Wp C A (eval (.IfExp test a b pos) env) Q h := fun t =>
  wpAny_IfExp ((x (fun d h' => d = c ∧ h = h') ⟨rfl, rfl⟩).seq t fun d _ t' q => by
    obtain ⟨rfl, rfl⟩ := q
    cases d with
    | true => simp only [if_true]; exact kt rfl t'
    | false => simp only [Bool.false_eq_true, if_false]; exact kf rfl t')
theorem e_type {x : Str} {p0 pos : Pos} {e : Expr} {p : PV} {T : String} (g : Gl C A env h x (.type "type")) (y : Pe C A env h e p) (hT : ∀ v t, pv v = p → (C.st h t).TypeIs v T) (hnb : (Value.type T == Value.type "builtin_function_or_method") = false := by rfl)
    (he : starEach [e] env = (false, eval e env) :: starEach [] env := by rfl) : Pe C A env h (.Call (.Name x p0) [e] [] pos) (.typ T) := fun Q k =>
  w_call_ty g (w_args_cons (y _ fun v hv => w_args_nil (w_type (fun t => hT v t hv) hnb (k _ rfl))) he) he
theorem x_one {us : List Value} {p : PV} (h : us.map pv = [p]) : ∃ u, us = [u] ∧ pv u = p := by
  obtain ⟨u, rfl⟩ := args1 h
  exact ⟨u, rfl, (List.cons.inj h).1⟩
end

section
variable {C : Cx} {A : Around} {h h₀ h' : Heap} {env : Env} {l l' : List (Str × Option PV)} {cs cs' : List (Addr × AO)} {K : Frag}
theorem gm_slot {T id : String} {name : Str} {ov : Value} (pa : PlainAttrs T) (sl : Slot T name id) (ty : typeOf (.builtin id) = Pure.pure (.type "method_descriptor")) (hT : ∀ t, (C.st h t).TypeIs ov T) (hd : ∀ a, ov = .ref a → ∃ ob, h.get? a = some ob ∧ ob.dict = none)
    (pl : Sem Bool) (R : Value × List Value → Heap → Prop) (k : R (.builtin id, [ov]) h) : Wp C A (getMethod ov name pl) R h := fun t =>
  getMethod_builtin (hT t) pa sl ty hd ⟨_, _, rfl, k⟩
theorem gm_type {T : String} {name : Str} {v : Value} (G : Gd K h) (ht : typeOf (.type T) = Pure.pure (.type "type")) (hs : Manifest.isStub T = false) (e : findCls K (.type T) (.type "type") name = some (.val v)) (hh : handedIn v = true)
    (pl : Sem Bool) (R : Value × List Value → Heap → Prop) (k : R (v, []) h) : Wp C A (getMethod (.type T) name pl) R h := fun t => by
  have X := G.k
  have hstub : opaqueClassAbove (.type T) = Pure.pure none := by unfold opaqueClassAbove; dsimp only; rw [hs]; rfl
  have L0 : Looks C.M h (typeOf (.type T)) (.type "type") := Looks.of_pure ht
  have hg : findIn K (.type "type") "__getattribute__" = some (some (.builtin "type.__getattribute__")) := type_tga
  unfold getMethod specialOf
  refine wpAny_bind (wpAny_bind (L0.here (s := C.st h t) ((looks_findIn X hg).here ?_)))
  dsimp only
  rw [if_pos canon_tga]
  refine wpAny_bind (wpAny_mono (Q := fun v s' => ∃ h' t', s' = C.st h' t' ∧ R (v, []) h') (E := fun _ _ => False) ?_ (fun _ _ z => wpAny_pure z) fun _ _ z => z)
  have LO : Looks C.M h (opaqueClassAbove (.type T)) none := Looks.of_pure hstub
  exact cls_open X LO L0 hg (looks_hook X (r := none) (by rfl)) (by show subIn K _ _ = _; rfl) e
    (wpAny_pure (by show wpAny _ _ (handedOut v) _ _ _; rw [handedOut_of hh]; exact wpAny_pure ⟨_, _, rfl, k⟩))
theorem w_callWith {pos : Pos} {id : String} {first : List Value} {e : Expr} {r : List Expr} {Q : Value → Heap → Prop} (y : Wp C A (spliced (backTo pos (starEach (e :: r) env))) (fun vs h1 => Wp C A (call (.builtin id) (first ++ vs)) Q h1) h)
    (he : starEach (e :: r) env = (false, eval e env) :: starEach r env := by rfl) (hp : (backTo pos (starEach r env)).any (·.1) = false := by rfl) :
    Wp C A (callWith pos (.builtin id) first (backTo pos (starEach (e :: r) env)) []) Q h := fun t => callWith_method1 (y.seq t fun vs h2 t2 q => q t2) he hp
noncomputable def transT (f g : List UInt8) : Array UInt8 := (f.zip g).foldl (fun t x => t.setIfInBounds x.1.toNat x.2) ((Array.range 256).map (·.toUInt8))
theorem w_builtin {id : String} {args : List Value} {kw : List (Str × Value)} {b : Builtin} {Q : Value → Heap → Prop} (hp : plainId id = true) (hb : entryFor table id = some b) (hc : checkBuiltinCall id ⟨args, kw⟩ = Pure.pure ())
    (x : Wp C A.in1 (b ⟨args, kw⟩) (fun fin h' => ∃ v, fin = .done (.ret v) ∧ Q v h') h) : Wp C A (call (.builtin id) args kw) Q h := fun t => by
  refine wpAny_call (codeAny_call_builtin hp hb (wpAny_of_eq hc (x.seq t fun fin h' t' q => ?_)))
  obtain ⟨v, rfl, q⟩ := q
  exact ⟨_, _, rfl, q⟩
theorem plain_mk : plainId "bytes.maketrans" = true := by decide +kernel
theorem entry_mk : entryFor table "bytes.maketrans" = some Builtin.«bytes.maketrans» := entryFor_of_tree (by kernel_rfl)
theorem check_mk (a b : Value) : checkBuiltinCall "bytes.maketrans" ⟨[a, b], []⟩ = Pure.pure () := by kernel_rfl
theorem transT_size (f g : List UInt8) : (transT f g).size = 256 := by
  unfold transT
  have : ∀ (l : List (UInt8 × UInt8)) (t : Array UInt8), (l.foldl (fun t x => t.setIfInBounds x.1.toNat x.2) t).size = t.size := by
    intro l
    induction l with
    | nil => intro t; rfl
    | cons x l ih => intro t; rw [List.foldl_cons, ih]; simp
  rw [this]; simp
theorem Wp.of_eq {α : Type} {T : Sem α} {a : α} {Q : α → Heap → Prop} (e : T = Pure.pure a) (k : Q a h) : Wp C A T Q h := by rw [e]; exact Wp.pure k
theorem w_mkBytes {b : Array UInt8} {Q : Value → Heap → Prop} (hz : b.size ≤ sizeLine) (k : ∀ v, pv v = .bytes b → Q v h) : Wp C A (mkBytes b) Q h := by
  unfold mkBytes
  rw [if_neg (by lia)]
  exact Wp.bind (Wp.fresh fun t => Wp.pure (k _ rfl))
theorem w_mkStr {b : Str} {Q : Value → Heap → Prop} (hz : b.length ≤ sizeLine) (k : ∀ v, pv v = .str b → Q v h) : Wp C A (mkStr b) Q h := by
  unfold mkStr
  rw [if_neg (by lia)]
  exact Wp.bind (Wp.fresh fun t => Wp.pure (k _ rfl))
theorem w_maketrans {u v : Value} {a b : Array UInt8} {Q : Value → Heap → Prop} (hu : pv u = .bytes a) (hv : pv v = .bytes b) (hab : a.size = b.size) (k : ∀ w, pv w = .bytes (transT a.toList b.toList) → Q w h) :
    Wp C A (call (.builtin "bytes.maketrans") [u, v]) Q h := by
  obtain ⟨tu, rfl⟩ := pv_bytes hu
  obtain ⟨tv, rfl⟩ := pv_bytes hv
  refine w_builtin plain_mk entry_mk (check_mk _ _) ?_
  unfold Builtin.«bytes.maketrans» Builtin.Bytes.maketransM
  refine Wp.bind (Wp.of_eq (a := ()) (by first | rfl | kernel_rfl) ?_)
  refine Wp.bind (Wp.of_eq (a := ()) (by first | rfl | kernel_rfl) ?_)
  refine Wp.bind (Wp.of_eq (a := a) KBd.like_eq ?_)
  refine Wp.bind (Wp.of_eq (a := b) KBd.like_eq ?_)
  rw [show (a.size != b.size) = false by simp [hab]]
  simp only [Bool.false_eq_true, if_false]
  exact Wp.bind (w_mkBytes (b := transT a.toList b.toList) (by rw [transT_size]; decide) fun v hv => Wp.pure ⟨_, rfl, k v hv⟩)
theorem entry_tr : entryFor table "bytes.translate" = some Builtin.«bytes.translate» := entryFor_of_tree (by kernel_rfl)
theorem slot_tr : Slot "bytes" (Str.ofString "translate") "bytes.translate" :=
  .of (owner := "bytes") (n := "translate") (by rw [typeLookup_type, builtinLookup_eq_fast]; kernel_rfl) (by decide +kernel) (by decide +kernel) (by decide +kernel)
    (by first | exact .inl (by decide +kernel) | exact .inr (by decide +kernel)) (by rw [isSubtype_type]; kernel_rfl)
theorem type_tr : typeOf (.builtin "bytes.translate") = Pure.pure (.type "method_descriptor") := by show builtinType _ = _; rw [builtinType_eq_fast]; kernel_rfl
theorem args_tr (a b : Value) : argsOk "bytes.translate" ⟨[a, b], []⟩ := by unfold argsOk; kernel_rfl
theorem w_slot {T id : String} {name : Str} {self : Value} {rest : List Value} {b : Builtin} {Q : Value → Heap → Prop} (sl : Slot T name id) (hT : ∀ t, (C.st h t).TypeIs self T) (hb : entryFor table id = some b) (ha : argsOk id ⟨self :: rest, []⟩)
    (x : Wp C A.in1 (b ⟨self :: rest, []⟩) (fun fin h' => ∃ v, fin = .done (.ret v) ∧ Q v h') h) : Wp C A (call (.builtin id) (self :: rest)) Q h := fun t =>
  wpAny_call_entry sl (hT t) hb (x.seq t fun fin h' t' q => by obtain ⟨v, rfl, q⟩ := q; exact ⟨_, rfl, _, _, rfl, q⟩) ha
theorem w_same {a : Array UInt8} {tu : Tok} {Q : Value → Heap → Prop} (k : ∀ v, pv v = .bytes a → Q v h) : Wp C A (Builtin.Bytes.Kind.bytes.same (.bytes a tu)) Q h := by
  exact Wp.of_eq (a := Value.bytes a tu) (by first | rfl | kernel_rfl) (k _ rfl)
theorem w_translate {u v : Value} {a b : Array UInt8} {Q : Value → Heap → Prop} (hu : pv u = .bytes a) (hv : pv v = .bytes b) (hb : b.size = 256) (hz : a.size ≤ sizeLine) (k : ∀ w, pv w = .bytes (a.map fun c => b.getD c.toNat c) → Q w h) :
    Wp C A (call (.builtin "bytes.translate") [u, v]) Q h := by
  obtain ⟨tu, rfl⟩ := pv_bytes hu
  obtain ⟨tv, rfl⟩ := pv_bytes hv
  refine w_slot slot_tr (fun t => typeIs_bytes _ _ _) entry_tr (args_tr _ _) ?_
  unfold Builtin.«bytes.translate» Builtin.Bytes.translateM
  have e1 : (a.filter fun c => !(#[] : Array UInt8).contains c) = a := by simp
  dsimp only
  rw [if_neg (by simp)]
  rw [if_neg (by simp)]
  rw [if_neg (show ¬ ((Value.bytes b tv == Value.none) = true) from Bool.false_ne_true)]
  refine Wp.bind (Wp.of_eq (a := b) KBd.like_eq ?_)
  rw [if_neg (by simp [hb])]
  refine Wp.bind (Wp.pure ?_)
  dsimp only
  refine Wp.bind (Wp.pure ?_)
  refine Wp.bind (Wp.of_eq (a := a) rfl ?_)
  rw [e1]
  split
  · rename_i e
    have e : a.map (fun c => b.getD c.toNat c) = a := eq_of_beq e
    rw [e] at k
    refine Wp.bind (Wp.rule (Wp.bind ?_))
    refine w_same fun v hv => Wp.pure ⟨_, rfl, k v hv⟩
  · exact Wp.bind (w_mkBytes (b := a.map fun c => b.getD c.toNat c) (by simpa using hz) fun v hv => Wp.pure ⟨_, rfl, k v hv⟩)
theorem e_bytes {b : List UInt8} {u : Nat} {pos : Pos} : Pe C A env h (.Constant (.bytes b) u pos) (.bytes b.toArray) := fun Q k => by
  show Wp C A (do return Value.bytes b.toArray (← PySem.fresh)) Q h
  exact Wp.bind (Wp.fresh fun t => Wp.pure (k _ rfl))
theorem e_len_bytes {x : Str} {p0 pos : Pos} {e : Expr} {b : Array UInt8} (g : Gl C A env h x (.builtin "len")) (y : Pe C A env h e (.bytes b)) (hz : b.size ≤ 1099511627776)
    (he : starEach [e] env = (false, eval e env) :: starEach [] env := by rfl) : Pe C A env h (.Call (.Name x p0) [e] [] pos) (.int b.size) := fun Q k =>
  w_call_bi g (w_args_cons (y _ fun v hv => w_args_nil (by
    obtain ⟨u, rfl⟩ := pv_bytes hv
    exact fun t => KBw.len_K rfl (by rw [KBw.ints_length]; exact hz) ⟨_, _, rfl, k _ (by rw [KBw.ints_length]; rfl)⟩)) he) he
theorem x_assert {test : Expr} {msg : Option Expr} {pos : Pos} {rest : List Stmt} {Q : Flow → Heap → Prop} (x : Pt C A env h test true) (k : Wp C A (execs rest env) Q h) : Wp C A (execs (.Assert test msg pos :: rest) env) Q h :=
  x_cons fun t => wpAny_Assert_holds ((x (fun b h' => b = true ∧ h = h') ⟨rfl, rfl⟩).seq t fun b _ t' q => by obtain ⟨rfl, rfl⟩ := q; exact ⟨rfl, _, _, rfl, k⟩)
end

section
variable {C : Cx} {A : Around} {h h₀ h' : Heap} {env : Env} {l l' : List (Str × Option PV)} {cs cs' : List (Addr × AO)} {K : Frag}
structure Mt (C : Cx) (A : Around) (h : Heap) (ov : Value) (name : Str) (f : Value) (first : List Value) : Prop where
  out : ∀ (pl : Sem Bool) (R : Value × List Value → Heap → Prop), R (f, first) h → Wp C A (getMethod ov name pl) R h
theorem w_mcall {o : Expr} {name : Str} {apos pos : Pos} {es : List Expr} {Q : Value → Heap → Prop}
    (x : Wp C A (eval o env) (fun ov h1 => ∃ f first, Mt C A h1 ov name f first ∧ Wp C A (callWith pos f first (backTo pos (starEach es env)) []) Q h1) h)
    (hfew : ((backTo pos (starEach es env)).all (fun x => !x.1) && (backToKw pos (keywordEach [] env)).all (fun x => x.1.isSome) && decide (es.length + ([] : List Keyword).length + (if ([] : List Keyword).isEmpty then 0 else 1) < 30)) = true := by rfl)
    (hbase : attributeBase o name env (eval o env) = eval o env := by rfl) (hline : (apos.endLine == pos.line) = true := by rfl) :
    Wp C A (eval (.Call (.Attribute o name apos) es [] pos) env) Q h := fun t => by
  rw [arm_eval_Call, hbase]
  refine wpAny_bind (x.seq t fun u h1 t1 q1 => ?_)
  obtain ⟨f, first, gm, y⟩ := q1
  refine wpAny_bind (wpAny_standAt ?_)
  have hform : methodCallForm (es.length + ([] : List Keyword).length) (backTo pos (starEach es env)) (backToKw pos (keywordEach [] env)) = true := hfew
  have hpos : methodCallPos true o env apos pos = Pure.pure pos := by unfold methodCallPos; simp [hline]
  unfold methodCall
  rw [hform]
  refine wpAny_bind (wpAny_holding ((gm.out _ (fun r h' => r = (f, first) ∧ h1 = h') ⟨rfl, rfl⟩).seq t1 fun r _ t2 q2 => ?_))
  obtain ⟨rfl, rfl⟩ := q2
  exact wpAny_bind (wpAny_of_eq hpos (y t2))
theorem mt_bytes {name : Str} {id : String} {b : Array UInt8} {t : Tok} (sl : Slot "bytes" name id) (ty : typeOf (.builtin id) = Pure.pure (.type "method_descriptor")) : Mt C A h (.bytes b t) name (.builtin id) [.bytes b t] :=
  ⟨fun pl R k => gm_slot FB.plainAttrs_bytes sl ty (fun t => typeIs_bytes _ _ _) (fun _ e => nomatch e) pl R k⟩
theorem mt_type {T : String} {name : Str} {v : Value} (G : Gd K h) (ht : typeOf (.type T) = Pure.pure (.type "type")) (hs : Manifest.isStub T = false) (e : findCls K (.type T) (.type "type") name = some (.val v)) (hh : handedIn v = true) : Mt C A h (.type T) name v [] :=
  ⟨fun pl R k => gm_type G ht hs e hh pl R k⟩
theorem w_callWith0 {pos : Pos} {id : String} {first : List Value} {Q : Value → Heap → Prop} (y : Wp C A (call (.builtin id) first) Q h) :
    Wp C A (callWith pos (.builtin id) first (backTo pos (starEach [] env)) []) Q h := fun t =>
  Calls.callWith_builtin rfl (evalArgs_empty (by simpa using y t))
end

section
variable {C : Cx} {A : Around} {h h₀ h' : Heap} {env : Env} {l l' : List (Str × Option PV)} {cs cs' : List (Addr × AO)} {K : Frag}
theorem forIn_two {β : Type} (n : Nat) (f : Nat → β → Sem (ForInStep β)) (a b : β) (h0 : 0 < n → f 0 a = Pure.pure (.yield b)) (h1 : ∀ i, f i b = Pure.pure (.done b)) (hz : n = 0 → a = b) : (forIn [:n] a f : Sem β) = Pure.pure b := by
  rw [Std.Legacy.Range.forIn_eq_forIn_range']
  simp only [Std.Legacy.Range.size]
  cases n with
  | zero => rw [hz rfl]; simp
  | succ n =>
    rw [show (n + 1 - 0 + 1 - 1) / 1 = n + 1 by simp]
    rw [List.range'_succ, List.forIn_cons, h0 (by lia), pure_bind]
    dsimp only
    cases n with
    | zero => simp
    | succ n => rw [List.range'_succ, List.forIn_cons, h1, pure_bind]
theorem encNarrow {id : String} {self : Value} {s : Str} (ha : s.cps.all (· < 128) = true) (hz : s.cps.size ≤ sizeLine) : Builtin._codecs.encodeNarrow id Builtin._codecs.asciiCodec none self s = Pure.pure (s.cps.map (·.toUInt8)) := by
  unfold Builtin._codecs.encodeNarrow
  dsimp only
  have hb : ∀ x ∈ s.cps, ¬ (128 ≤ x) := by
    intro x hx
    have := (Array.all_eq_true_iff_forall_mem.mp ha) x hx
    simpa using this
  rw [forIn_two s.length (f := _) (β := Nat × Array UInt8 × Builtin._codecs.Faults) (0, #[], ({} : Builtin._codecs.Faults)) (s.cps.size, s.cps.map (·.toUInt8), ({} : Builtin._codecs.Faults)) ?_ ?_ ?_, pure_bind]
  · intro hn
    have hn' : 0 < s.cps.size := hn
    dsimp only
    rw [if_neg (by simp), Array.getElem?_eq_getElem hn']
    dsimp only
    have hbad : Builtin._codecs.asciiCodec.bad s.cps[0] = false := by
      simp [Builtin._codecs.asciiCodec]
      have := hb s.cps[0] (by simp)
      lia
    rw [hbad]
    rw [if_pos (show (!false) = true from rfl)]
    have e1 : s.cps.extract 0 s.cps.size = s.cps := by simp
    rw [e1]
    have e2 : Array.findIdx? Builtin._codecs.asciiCodec.bad s.cps = none := by
      rw [Array.findIdx?_eq_none_iff]
      intro x hx
      simp [Builtin._codecs.asciiCodec]
      have := hb x hx
      lia
    rw [e2]
    dsimp only [Option.getD_none]
    rw [e1]
    have e3 : Array.foldl (fun acc y => acc ++ (Builtin._codecs.asciiCodec.bytesOf y).toArray) #[] s.cps = s.cps.map (·.toUInt8) := by
      rw [← Array.foldl_toList]
      have : ∀ (l : List Nat) (acc : Array UInt8), l.foldl (fun acc y => acc ++ (Builtin._codecs.asciiCodec.bytesOf y).toArray) acc = acc ++ (l.map (·.toUInt8)).toArray := by
        intro l
        induction l with
        | nil => intro acc; simp
        | cons y l ih => intro acc; rw [List.foldl_cons, ih]; simp [Builtin._codecs.asciiCodec]
      rw [this]
      apply Array.toList_inj.mp
      simp
    rw [e3, Nat.zero_add]
  · intro i
    dsimp only
    rw [if_neg (by simp; assumption), Array.getElem?_eq_none (by lia)]
  · intro hn
    have hn' : s.cps.size = 0 := hn
    have : s.cps = #[] := Array.size_eq_zero_iff.mp hn'
    rw [this]; simp
theorem w_encode {u v : Value} {s : Str} {Q : Value → Heap → Prop} (hu : pv u = .str s) (hv : pv v = .str (Str.ofString "ascii")) (ha : s.cps.all (· < 128) = true) (hz : s.cps.size ≤ sizeLine) (k : ∀ w, pv w = .bytes (s.cps.map (·.toUInt8)) → Q w h) :
    Wp C A (call (.builtin "str.encode") [u, v]) Q h := by
  obtain ⟨tu, rfl⟩ := pv_str hu
  obtain ⟨tv, rfl⟩ := pv_str hv
  refine w_slot F.slot_str_encode (fun t => typeIs_str _ _ _) F.entry_str_encode (F.args_str_encode_2 _ _) ?_
  have e : Builtin.«str.encode» ⟨[.str s tu, .str (Str.ofString "ascii") tv], []⟩ = (do PySem.ret (← Builtin._codecs.encodeRoad "str.encode" (.str s tu) s (Str.ofString "ascii") none)) := by kernel_rfl
  rw [e]
  have e2 : Builtin._codecs.encodeRoad "str.encode" (.str s tu) s (Str.ofString "ascii") none = (do mkBytes (← Builtin._codecs.encodeNarrow "str.encode" Builtin._codecs.asciiCodec none (.str s tu) s)) := by
    first | rfl | (unfold Builtin._codecs.encodeRoad; rfl) | (unfold Builtin._codecs.encodeRoad; simp only []; rfl)
  rw [e2, encNarrow ha hz]
  refine Wp.bind (Wp.bind (Wp.pure ?_))
  exact w_mkBytes (by simpa using hz) fun v hv => Wp.pure ⟨_, rfl, k v hv⟩
theorem mt_str {name : Str} {id : String} {b : Str} {t : Tok} (sl : Slot "str" name id) (ty : typeOf (.builtin id) = Pure.pure (.type "method_descriptor")) : Mt C A h (.str b t) name (.builtin id) [.str b t] :=
  ⟨fun pl R k => gm_slot F.plainAttrs_str sl ty (fun t => typeIs_str _ _ _) (fun _ e => nomatch e) pl R k⟩
theorem w_isinst {u : Value} {c : Value} {T : Value} {b : Bool} {Q : Value → Heap → Prop} (G : Gd K h) (Z : KitX K u T (fun _ => True)) (e : kitOne K T c = some b) (hx : u ≠ .builtin "__main__.__loader__#opaque") (k : Q (.bool b) h) : Wp C A (call (.builtin "isinstance") [u, c]) Q h :=
  fun t => kia_one Z G.k trivial e hx fun tk => ⟨_, _, rfl, k⟩
theorem w_isinst_tup {u : Value} {tp : Addr} {its : List Value} {T : Value} {b : Bool} {Q : Value → Heap → Prop} (G : Gd K h) (Z : KitX K u T (fun _ => True)) (ht : h.get? tp = some ⟨.type "tuple", none, .seq its.toArray 0, #[]⟩) (e : kitAny K T its = some b) (hx : u ≠ .builtin "__main__.__loader__#opaque") (k : Q (.bool b) h) : Wp C A (call (.builtin "isinstance") [u, .ref tp]) Q h :=
  fun t => kia_tup Z G.k trivial ht e hx fun tk => ⟨_, _, rfl, k⟩
theorem e_isinst {x : Str} {p0 pos : Pos} {e1 e2 : Expr} {p : PV} {cv T : Value} {b : Bool} (G : Gd K h) (g : Gl C A env h x (.builtin "isinstance")) (y1 : Pe C A env h e1 p) (y2 : Pe C A env h e2 (pv cv)) (hc : ∀ u, pv u = pv cv → u = cv)
    (Z : ∀ v, pv v = p → KitX K v T (fun _ => True)) (hx : ∀ v, pv v = p → v ≠ .builtin "__main__.__loader__#opaque") (e : kitOne K T cv = some b)
    (he : starEach [e1, e2] env = (false, eval e1 env) :: starEach [e2] env := by rfl) (he2 : starEach [e2] env = (false, eval e2 env) :: starEach [] env := by rfl) (hp : (backTo pos (starEach [e2] env)).any (·.1) = false := by rfl) : Pe C A env h (.Call (.Name x p0) [e1, e2] [] pos) (.bool b) := fun Q k =>
  w_call_bi g (w_args_cons (y1 _ fun v hv => w_args_cons (y2 _ fun u hu => w_args_nil (by obtain rfl := hc u hu; exact w_isinst G (Z v hv) e (hx v hv) (k _ rfl))) he2) he) he hp
theorem e_isinst_tup {x : Str} {p0 pos : Pos} {e1 e2 : Expr} {p : PV} {T : Value} {tp : Addr} {its : List Value} {b : Bool} (G : Gd K h) (g : Gl C A env h x (.builtin "isinstance")) (y1 : Pe C A env h e1 p) (y2 : Pe C A env h e2 (.ref tp))
    (Z : ∀ v, pv v = p → KitX K v T (fun _ => True)) (hx : ∀ v, pv v = p → v ≠ .builtin "__main__.__loader__#opaque") (ht : h.get? tp = some ⟨.type "tuple", none, .seq its.toArray 0, #[]⟩) (e : kitAny K T its = some b)
    (he : starEach [e1, e2] env = (false, eval e1 env) :: starEach [e2] env := by rfl) (he2 : starEach [e2] env = (false, eval e2 env) :: starEach [] env := by rfl) (hp : (backTo pos (starEach [e2] env)).any (·.1) = false := by rfl) : Pe C A env h (.Call (.Name x p0) [e1, e2] [] pos) (.bool b) := fun Q k =>
  w_call_bi g (w_args_cons (y1 _ fun v hv => w_args_cons (y2 _ fun u hu => w_args_nil (by obtain rfl := pv_ref hu; exact w_isinst_tup G (Z v hv) ht e (hx v hv) (k _ rfl))) he2) he) he hp
theorem boot_isinstance : bootBuiltins (Str.ofString "isinstance") = some (.builtin "isinstance") := by kernel_rfl
theorem x_try {body orelse rest : List Stmt} {h₀ : ExceptHandler} {hs : List ExceptHandler} {pos : Pos} {Q : Flow → Heap → Prop}
    (x : Wp C A (execs body env) (Sq C A env orelse (Sq C A env rest Q)) h) : Wp C A (execs (.Try body (h₀ :: hs) orelse [] pos :: rest) env) Q h := by
  refine x_cons fun t => wpAny_Try_except (wpAny_mono (x t) (fun f s q => ?_) fun _ _ z => z.elim)
  obtain ⟨h1, t1, rfl, q⟩ := q
  cases f <;> first | exact q t1 | exact ⟨_, _, rfl, q⟩
end

section
variable {C : Cx} {A : Around} {h h₀ h' : Heap} {env : Env} {l l' : List (Str × Option PV)} {cs cs' : List (Addr × AO)} {K : Frag}
theorem t_int {e : Expr} {n : Int} (x : Pe C A env h e (.int n)) (hx : isTrue e env (eval e env) = (do let v ← eval e env; PySem.standAt e.pos; holding [v] (truthy v)) := by rfl) : Pt C A env h e (n != 0) := fun Q k => by
  rw [hx]
  refine Wp.bind (x _ fun v hv => ?_)
  obtain ⟨t, rfl⟩ := pv_int hv
  exact Wp.bind (Wp.standAt (Wp.holding fun t => PyProof.Rows.truthy_int ⟨_, _, rfl, k⟩))
end


noncomputable def celO (p : Option PV) : AO := .obj fun o => ∃ v : Option Value, o.data = .cell v ∧ v.map pv = p
noncomputable def nsO : AO := .obj fun o => ∃ (es : Array DictEntry) (ep : Nat) (m : Str → Option Value), o.data = .dict es ep ∧ StrKeys es ∧ ∀ name, nsFind es name = m name
section
variable {C : Cx} {A : Around} {h h₀ h' : Heap} {env : Env} {l l' : List (Str × Option PV)} {cs cs' : List (Addr × AO)} {K : Frag}
theorem e_cell {x : Str} {p : PV} {c : Addr} {pos : Pos} (hk : env.scope.kind = .function) (hl : (env.kindOf x == some .cell || env.kindOf x == some .free) = true) (hc : env.cells.lookup x = some c) (o : Own h c (celO (some p)))
    (hd : (x == ("__debug__" : Str)) = false := by decide) (hn : (x == ("__classdict__" : Str)) = false := by decide) : Pe C A env h (.Name x pos) p := fun Q k t => by
  obtain ⟨o, eo, v, hv, ev⟩ := o
  cases v with
  | none => cases ev
  | some v =>
    have ev := Option.some.inj ev
    have ic : (C.st h t).heap.IsCell c (some v) := ⟨o, eo, hv⟩
    rcases Bool.or_eq_true_iff.mp hl with e | e
    · exact wpAny_Name (wpAny_loadName_cell hk (by simpa using e) hc ic ⟨_, _, rfl, k v ev⟩) hd
    · exact wpAny_Name (wpAny_loadName_free hk (by simpa using e) hc ic ⟨_, _, rfl, k v ev⟩ hn) hd
theorem w_storeC {x : Str} {p : PV} {p0 : Option PV} {v : Value} {c : Addr} {Q : Unit → Heap → Prop} (Z : St env h₀ l cs h) (hv : pv v = p) (hl : env.kindOf x = some .cell) (hc : env.cells.lookup x = some c) (a : CAt cs c (celO p0)) (b : CSet c (celO (some p)) cs cs')
    (k : ∀ h', St env h₀ l cs' h' → Q () h') : Wp C A (storeName env x v) Q h := fun t => by
  obtain ⟨o, eo, v0, hv0, ev⟩ := Z.get a
  refine wpAny_storeName_cell Z.lk.kind hl hc ⟨o, eo, hv0⟩ fun h' ic hs => ⟨h', _, rfl, k h' (Z.upd b hs ?_)⟩
  obtain ⟨o', eo', hd'⟩ := ic
  exact ⟨o', eo', some v, hd', by rw [← hv]; rfl⟩
theorem get_locals (Z : St env h₀ l cs h) : ∃ o, h.get? env.locals = some o := by
  obtain ⟨m, ⟨o, _, _, e, _⟩, _⟩ := Z.loc; exact ⟨o, e⟩
theorem St.enter {cenv : Env} {ks : List Str} {oL : Obj} {f : Str → Option Value} {o0 : Obj} (Z : St env h₀ l cs h) (eo : h.get? env.locals = some oL) (hL : cenv.locals = h.objs.size) (lk : LocK cenv ks)
    (hn : h'.Ns h.objs.size f) (hs : Heap.SameBut h.objs.size (h.push o0) h') : St cenv h₀ (ks.map fun k => (k, none)) ((env.locals, .raw oL) :: cs) h' := by
  have kp : Keeps h h' := fun b o e => (hs.2 b (Nat.ne_of_lt (Heap.lt_size e))).trans (Heap.get?_push_of_some _ e)
  have nl : ∀ b o, h.get? b = some o → b ≠ h.objs.size := fun b o e => Nat.ne_of_lt (Heap.lt_size e)
  refine ⟨⟨f, hL ▸ hn, fun x p m => ?_⟩, ?_, Z.keep.trans kp, ?_, fun p hp => ?_, fun p hp => ?_, ?_⟩
  · obtain ⟨_, _, e⟩ := List.mem_map.mp m
    cases e
  · have : (ks.map fun k => ((k, none) : Str × Option PV)).map (·.1) = ks := by rw [List.map_map]; exact List.map_id _
    rw [this]; exact lk
  · rw [hL]
    cases q : h₀.get? h.objs.size with
    | none => rfl
    | some o => exact absurd rfl (nl _ _ (Z.keep _ _ q))
  · rcases List.mem_cons.mp hp with rfl | hp
    · exact ⟨oL, kp _ _ eo, rfl⟩
    · exact (Z.own p hp).keeps kp
  · rcases List.mem_cons.mp hp with rfl | hp
    · exact Z.low
    · exact Z.fresh p hp
  · rw [hL]
    refine List.nodup_cons.mpr ⟨fun m => ?_, Z.nd⟩
    obtain ⟨⟨b, y⟩, hm, e⟩ := List.mem_map.mp m
    rcases List.mem_cons.mp hm with q | q
    · cases q; exact nl _ _ eo e
    · obtain ⟨o, e', _⟩ := Z.own _ q
      exact nl _ _ e' e
theorem St.leave {cenv : Env} {l1 : List (Str × Option PV)} {oL : Obj} (Z : St env h₀ l cs h) (eo : h.get? env.locals = some oL) (Z' : St cenv h₀ l1 ((env.locals, .raw oL) :: cs') h') : St env h₀ l ((cenv.locals, nsO) :: cs') h' := by
  have nd := Z'.nd
  simp only [List.map_cons] at nd
  obtain ⟨n1, n2⟩ := List.nodup_cons.mp nd
  obtain ⟨n3, n4⟩ := List.nodup_cons.mp n2
  refine ⟨?_, Z.lk, Z'.keep, Z.low, fun p hp => ?_, fun p hp => ?_, ?_⟩
  · obtain ⟨m, ⟨o, es, ep, e, r1⟩, r⟩ := Z.loc
    obtain ⟨o2, e2, d⟩ := Z'.own _ (.head _)
    have d : o2 = oL := d
    rw [e] at eo
    cases eo
    subst d
    exact ⟨m, ⟨_, es, ep, e2, r1⟩, r⟩
  · rcases List.mem_cons.mp hp with rfl | hp
    · obtain ⟨m, ⟨o, es, ep, e, a, b, c⟩, _⟩ := Z'.loc; exact ⟨o, e, es, ep, m, a, b, c⟩
    · exact Z'.own p (.tail _ hp)
  · rcases List.mem_cons.mp hp with rfl | hp
    · exact Z'.low
    · exact Z'.fresh p (.tail _ hp)
  · simp only [List.map_cons]
    refine List.nodup_cons.mpr ⟨fun m => ?_, List.nodup_cons.mpr ⟨fun m => n1 (.tail _ m), n4⟩⟩
    rcases List.mem_cons.mp m with e | e
    · exact n1 (e ▸ .head _)
    · exact n3 e
theorem St.free {a : Addr} {x : AO} (Z : St env h₀ l ((a, x) :: cs) h) (hs : Heap.SameBut a h h') : St env h₀ l cs h' := by
  have nd := Z.nd
  simp only [List.map_cons] at nd
  obtain ⟨n1, n2⟩ := List.nodup_cons.mp nd
  obtain ⟨n3, n4⟩ := List.nodup_cons.mp n2
  refine ⟨?_, Z.lk, fun b o q => (hs.2 b fun z => ?_).trans (Z.keep b o q), Z.low, fun p hp => ?_, fun p hp => Z.fresh p (.tail _ hp), List.nodup_cons.mpr ⟨fun m => n1 (.tail _ m), n4⟩⟩
  · obtain ⟨m, n, r⟩ := Z.loc
    exact ⟨m, n.sameBut hs (fun z => n1 (z ▸ .head _)), r⟩
  · have := Z.fresh _ (.head _); rw [show (a, x).1 = b from z.symm, q] at this; cases this
  · obtain ⟨o, eo, d⟩ := Z.own p (.tail _ hp)
    exact ⟨o, (hs.2 _ (fun z => n3 (z ▸ List.mem_map.mpr ⟨p, hp, rfl⟩))).trans eo, d⟩

theorem w_comprehension {e : Expr} {scope : Scope} {pos : Pos} {first : Sem Value} {g : Comprehension} {gs : List Comprehension} {cl : List (Str × Addr)} {use : Option (Value → Sem Unit)} {ks : List Str} {Q : Value → Heap → Prop}
    (hcl : clausesOf e = g :: gs) (hs : ∀ x, foldedSetIterable g.iter env x = Pure.pure x) (hclos : closureFor scope env = Pure.pure cl) (hkind : scope.kind = .function) (hnames : ∀ x ∈ scope.names, x.2 = .local → scope.names.lookup x.1 = some .local) (hcell : ∀ x ∈ scope.names, x.2 ≠ .cell)
    (lk : ∀ L, LocK (compEnvC scope cl L env) ks)
    (h1 : Wp C A first (fun x h1 => Wp C A (pyIter x) (fun it h2 => ∃ cs2, St env h₀ l cs2 h2 ∧ ∀ acc L oL h3, St (compEnvC scope cl L env) h₀ (ks.map fun k => (k, none)) ((env.locals, .raw oL) :: (acc, .list []) :: cs2) h3 →
      Cp C A (.compStart e 0 it (.ref acc) (compEnvC scope cl L env)) (fun f h4 => f = .next ∧ ∃ l3 cs3 ps, St (compEnvC scope cl L env) h₀ l3 ((env.locals, .raw oL) :: (acc, .list ps) :: cs3) h4 ∧
        ∀ h5, St env h₀ l ((L, nsO) :: (acc, .list ps) :: cs3) h5 → match use with
          | none => ∀ h6, St env h₀ l ((acc, .list ps) :: cs3) h6 → Q (.ref acc) h6
          | some u => Wp C A (u (.ref acc)) (fun _ h6 => ∃ l6 cs6, St env h₀ l6 ((L, nsO) :: cs6) h6 ∧ ∀ h7, St env h₀ l6 cs6 h7 → Q .none h7) h5) h3) h1) h) :
    Wp C A (comprehension e scope env pos (newList []) false first use) Q h := fun t => by
  refine wpAny_comprehension_free hcl hs hclos hkind hnames (h1.seq t fun x h1 t1 q1 => q1.seq t1 fun it h2 t2 q2 => ?_)
  obtain ⟨cs2, Z, q⟩ := q2
  refine wpAny_newObj_type (Q := _) ?_ (by show (0 : Nat) ≤ sizeLine; decide)
  have Z1 : St env h₀ l ((h2.objs.size, .list []) :: cs2) (h2.push (listOf #[] 0)) := Z.push ⟨_, _, rfl, rfl⟩
  obtain ⟨oL, eo⟩ := get_locals Z1
  refine wpAny_newFunctionEnv hcell (fun _ z => nomatch z) (fun h' hn hsb => ?_) hkind
  have eL : (h2.push (listOf #[] 0)).objs.size = h2.objs.size + 1 := Heap.size_push ..
  have Z3 := Z1.enter (cenv := compEnvC scope cl (h2.push (listOf #[] 0)).objs.size env) (ks := ks) eo rfl (lk _) hn hsb
  refine (q h2.objs.size (h2.push (listOf #[] 0)).objs.size oL h' Z3).code _ fun f h4 t4 q4 => ?_
  obtain ⟨rfl, l3, cs3, ps, Z4, k⟩ := q4
  have Z5 := Z1.leave eo Z4
  have k5 := k h4 Z5
  cases use with
  | none =>
    obtain ⟨m, n, r⟩ := Z4.loc
    exact ⟨m, n, fun h6 hs6 => ⟨h6, _, rfl, k5 h6 (Z5.free hs6)⟩⟩
  | some u =>
    refine Wp.seq k5 _ fun _ h6 t6 q6 => ?_
    obtain ⟨l6, cs6, Z6, k6⟩ := q6
    obtain ⟨o, e, es, ep, m, a, b, c⟩ := Z6.get .here
    exact ⟨m, ⟨o, es, ep, e, a, b, c⟩, fun h7 hs7 => ⟨h7, _, rfl, k6 h7 (Z6.free hs7)⟩⟩
end

noncomputable def lit (a : Addr) (i : Nat) : AO := .obj fun o => o.cls = .type "list_iterator" ∧ o.data = .fields #[.ref a, .int i 0]
noncomputable def tit (a : Addr) (i : Nat) : AO := .obj fun o => o.cls = .type "tuple_iterator" ∧ o.data = .fields #[.ref a, .int i 0]
section
variable {C : Cx} {A : Around} {h h₀ h' : Heap} {env : Env} {l l' : List (Str × Option PV)} {cs cs' : List (Addr × AO)} {K : Frag}
theorem own_tup {a : Addr} {ps : List PV} (x : Own h a (.tup ps)) : ∃ vs : Array Value, ∃ n, h.get? a = some ⟨.type "tuple", none, .seq vs n, #[]⟩ ∧ vs.toList.map pv = ps := by
  obtain ⟨_, e, vs, n, rfl, hv⟩ := x
  exact ⟨vs, n, e, hv⟩
theorem own_isList {a : Addr} {ps : List PV} (x : Own h a (.list ps)) : ∃ vs : Array Value, h.IsList a vs ∧ vs.toList.map pv = ps := by
  obtain ⟨vs, n, e, ev⟩ := own_list x
  exact ⟨vs, ⟨_, e, rfl, n, rfl⟩, ev⟩
theorem own_isTuple {a : Addr} {ps : List PV} (x : Own h a (.tup ps)) : ∃ vs : Array Value, h.IsTuple a vs ∧ vs.toList.map pv = ps := by
  obtain ⟨vs, n, e, ev⟩ := own_tup x
  exact ⟨vs, ⟨_, e, rfl, n, rfl⟩, ev⟩
theorem w_iter_list {a : Addr} {ps : List PV} {Q : Value → Heap → Prop} (Z : St env h₀ l cs h) (o : Own h a (.list ps)) (k : ∀ it h', St env h₀ l ((it, lit a 0) :: cs) h' → Q (.ref it) h') : Wp C A (pyIter (.ref a)) Q h := fun t => by
  obtain ⟨vs, hl, ev⟩ := own_isList o
  exact wpAny_pyIter_list hl ⟨_, _, rfl, k _ _ (Z.push ⟨rfl, rfl⟩)⟩
theorem next_list {it a : Addr} {i : Nat} {ps : List PV} {p : PV} {Q : Option Value → Heap → Prop} (Z : St env h₀ l cs h) (c : CAt cs it (lit a i)) (c' : CSet it (lit a (i + 1)) cs cs') (o : Own h a (.list ps)) (hp : ps[i]? = some p)
    (k : ∀ v h', pv v = p → St env h₀ l cs' h' → Q (some v) h') : Wp C A (pyNext (.ref it)) Q h := fun t => by
  obtain ⟨vs, hl, ev⟩ := own_isList o
  obtain ⟨v, hv, pvv⟩ := map_pv_get ev hp
  obtain ⟨ob, eo, e1, e2⟩ := Z.get c
  refine wpAny_pyNext_list_item ⟨ob, eo, e1, e2⟩ hl hv fun h' hi hs => ⟨_, _, rfl, k v h' pvv (Z.upd c' hs ?_)⟩
  obtain ⟨o', eo', e1', e2'⟩ := hi
  exact ⟨o', eo', e1', e2'⟩
theorem next_list_end {it a : Addr} {i : Nat} {ps : List PV} {Q : Option Value → Heap → Prop} (hh : A.handled = none) (Z : St env h₀ l ((it, lit a i) :: cs) h) (o : Own h a (.list ps)) (hp : ps.length ≤ i)
    (k : ∀ h', St env h₀ l cs h' → Q none h') : Wp C A (pyNext (.ref it)) Q h := fun t => by
  obtain ⟨vs, hl, ev⟩ := own_isList o
  obtain ⟨ob, eo, e1, e2⟩ := Z.get .here
  have hv : vs[i]? = none := by
    have : vs.size = ps.length := by rw [← ev, List.length_map]; simp
    exact Array.getElem?_eq_none (by lia)
  exact wpAny_pyNext_list_end hh ⟨ob, eo, e1, e2⟩ hl hv fun h' he => ⟨_, _, rfl, k h' (Z.ext he)⟩
theorem w_iter_lit {it a : Addr} {i : Nat} {Q : Value → Heap → Prop} (o : Own h it (lit a i)) (k : Q (.ref it) h) : Wp C A (pyIter (.ref it)) Q h := fun t => by
  obtain ⟨ob, eo, e1, e2⟩ := o
  exact wpAny_pyIter_listiter ⟨ob, eo, e1, e2⟩ ⟨_, _, rfl, k⟩
theorem w_iter_tup {a : Addr} {ps : List PV} {Q : Value → Heap → Prop} (Z : St env h₀ l cs h) (o : Own h a (.tup ps)) (k : ∀ it h', St env h₀ l ((it, tit a 0) :: cs) h' → Q (.ref it) h') : Wp C A (pyIter (.ref a)) Q h := fun t => by
  obtain ⟨vs, hl, ev⟩ := own_isTuple o
  exact wpAny_pyIter_tuple hl ⟨_, _, rfl, k _ _ (Z.push ⟨rfl, rfl⟩)⟩
theorem next_tup {it a : Addr} {i : Nat} {ps : List PV} {p : PV} {Q : Option Value → Heap → Prop} (Z : St env h₀ l cs h) (c : CAt cs it (tit a i)) (c' : CSet it (tit a (i + 1)) cs cs') (o : Own h a (.tup ps)) (hp : ps[i]? = some p)
    (k : ∀ v h', pv v = p → St env h₀ l cs' h' → Q (some v) h') : Wp C A (pyNext (.ref it)) Q h := fun t => by
  obtain ⟨vs, hl, ev⟩ := own_isTuple o
  obtain ⟨v, hv, pvv⟩ := map_pv_get ev hp
  obtain ⟨ob, eo, e1, e2⟩ := Z.get c
  refine wpAny_pyNext_tuple_item ⟨ob, eo, e1, e2⟩ hl hv fun h' hi hs => ⟨_, _, rfl, k v h' pvv (Z.upd c' hs ?_)⟩
  obtain ⟨o', eo', e1', e2'⟩ := hi
  exact ⟨o', eo', e1', e2'⟩
theorem next_tup_end {it a : Addr} {i : Nat} {ps : List PV} {Q : Option Value → Heap → Prop} (hh : A.handled = none) (Z : St env h₀ l ((it, tit a i) :: cs) h) (o : Own h a (.tup ps)) (hp : ps.length ≤ i)
    (k : ∀ h', St env h₀ l cs h' → Q none h') : Wp C A (pyNext (.ref it)) Q h := fun t => by
  obtain ⟨vs, hl, ev⟩ := own_isTuple o
  obtain ⟨ob, eo, e1, e2⟩ := Z.get .here
  have hv : vs[i]? = none := by
    have : vs.size = ps.length := by rw [← ev, List.length_map]; simp
    exact Array.getElem?_eq_none (by lia)
  exact wpAny_pyNext_tuple_end hh ⟨ob, eo, e1, e2⟩ hl hv fun h' he => ⟨_, _, rfl, k h' (Z.ext he)⟩
theorem w_iter_tit {it a : Addr} {i : Nat} {Q : Value → Heap → Prop} (o : Own h it (tit a i)) (k : Q (.ref it) h) : Wp C A (pyIter (.ref it)) Q h := fun t => by
  obtain ⟨ob, eo, e1, e2⟩ := o
  exact wpAny_pyIter_tupleiter ⟨ob, eo, e1, e2⟩ ⟨_, _, rfl, k⟩
theorem letGo_tup {target : Expr} {it : Addr} {x : AO} {T : String} {v : Value} {Q : Unit → Heap → Prop} (o : Own h it x) (hx : ∀ ob, x.den ob → ob.cls = .type T)
    (hT : ["enumerate", "zip", "dict_itemiterator", "dict_reverseitemiterator", "odict_iterator", "itertools.zip_longest", "itertools.pairwise"].contains T = false) (k : Q () h) : Wp C A (letOwnedTupleGo target (.ref it) v) Q h := by
  obtain ⟨ob, eo, d⟩ := o
  have hc := hx ob d
  have go : Wp C A (do
      let (.ref r, .ref a) := ((.ref it : Value), v) | return
      let o ← load r
      match o.cls, o.data with
      | .type n, .fields vs =>
        if ["enumerate", "zip", "dict_itemiterator", "dict_reverseitemiterator", "odict_iterator", "itertools.zip_longest", "itertools.pairwise"].contains n && vs[0]? == some (rawInt a) then
          rule "for.unpacks-the-owned-tuple"
          updateField r 0 .none
      | _, _ => Pure.pure ()) Q h := by
    cases v with
    | ref a =>
      dsimp only
      refine Wp.bind (Wp.load eo ?_)
      rw [hc]
      cases ob.data <;> first | exact Wp.pure k | skip
      dsimp only
      rw [hT]
      exact Wp.pure k
    | _ => exact Wp.pure k
  unfold letOwnedTupleGo
  cases target <;> first | exact Wp.pure k | exact go

theorem cp_compStart {elt target iter : Expr} {ifs : List Expr} {rest : List Comprehension} {scope : Scope} {pos : Pos} {it acc : Value} {Q : Flow → Heap → Prop}
    (x : Cp C A (.compLoop (.ListComp elt (⟨target, iter, ifs, 0⟩ :: rest) scope pos) 0 it acc env) Q h) (y : Wp C A (pyIter it) (fun it' h' => it' = it ∧ h' = h) h) :
    Cp C A (.compStart (.ListComp elt (⟨target, iter, ifs, 0⟩ :: rest) scope pos) 0 it acc env) Q h := fun t =>
  codeAny_compStart_list (x t) (wpAny_mono (y t) (fun it' s' q => by obtain ⟨h', t', rfl, rfl, rfl⟩ := q; exact x t') fun _ _ z => z.elim)
noncomputable abbrev compTs (ifs : List Expr) (env : Env) : Sem Bool := forIn ifs true fun c r => if r = true then (do let ok ← isTrue c env (eval c env); Pure.pure (ForInStep.yield ok)) else Pure.pure (ForInStep.yield r)
theorem w_tests0 {Q : Bool → Heap → Prop} (k : Q true h) : Wp C A (compTs [] env) Q h := fun _ => wpAny_tests_nil ⟨_, _, rfl, k⟩
theorem w_tests1 {c : Expr} {Q : Bool → Heap → Prop} (x : Wp C A (isTrue c env (eval c env)) Q h) : Wp C A (compTs [c] env) Q h := fun t => wpAny_tests_one (x t)
theorem cp_comp {elt target iter : Expr} {ifs : List Expr} {scope : Scope} {pos : Pos} {it acc : Value} {Q : Flow → Heap → Prop}
    (x : Wp C A (pyNext it) (fun r h1 => match r with
      | none => Q .next h1
      | some v => Wp C A (letOwnedTupleGo target it v) (fun _ h2 => Wp C A (assign target env v) (fun _ h3 => Wp C A (compTs ifs env) (fun ok h4 =>
          if ok = true then Wp C A (eval elt env) (fun x h5 => Wp C A (call (.builtin "list.append") [acc, x]) (fun _ h6 => Cp C A (.compLoop (.ListComp elt [⟨target, iter, ifs, 0⟩] scope pos) 0 it acc env) Q h6) h5) h4
          else Cp C A (.compLoop (.ListComp elt [⟨target, iter, ifs, 0⟩] scope pos) 0 it acc env) Q h4) h3) h2) h1) h) :
    Cp C A (.compLoop (.ListComp elt [⟨target, iter, ifs, 0⟩] scope pos) 0 it acc env) Q h := fun t => by
  refine codeAny_of_tree ?_
  rw [Around.under_of_weight rfl]
  show wpAny _ A ((compTurn (.ListComp elt [⟨target, iter, ifs, 0⟩] scope pos) 0 it acc env).onRaise (fun x => do noteFrame x env; theTreesLotGoes x)) _ _ _
  refine wpAny_noted ?_
  rw [compTurn_list]
  refine wpAny_bind (wpAny_standAt (wpAny_bind (x.seq _ fun r h1 t1 q1 => ?_)))
  cases r with
  | none => exact wpAny_pure ⟨_, _, _, rfl, rfl, q1⟩
  | some v =>
    refine wpAny_bind (Wp.seq q1 _ fun _ h2 t2 q2 => wpAny_bind (q2.seq _ fun _ h3 t3 q3 => wpAny_bind (q3.seq _ fun ok h4 t4 q4 => ?_)))
    cases ok with
    | false =>
      simp only [Bool.false_eq_true, if_false] at q4 ⊢
      exact wpAny_pure ⟨rfl, q4 t4⟩
    | true =>
      simp only [if_true] at q4 ⊢
      exact wpAny_bind (wpAny_bind (q4.seq _ fun x h5 t5 q5 => wpAny_bind (q5.seq _ fun _ h6 t6 q6 => wpAny_pure (wpAny_pure ⟨rfl, q6 t6⟩))))
theorem cp_compN {elt target iter : Expr} {ifs : List Expr} {scope : Scope} {pos : Pos} {it acc : Value} {X : Heap → Prop} (n : Nat) (I : Nat → Heap → Prop)
    (turn : ∀ i h, i < n → I i h → ∀ J : Heap → Prop, (∀ {h'}, I (i + 1) h' → J h') → Wp C A (pyNext it) (fun r h1 => ∃ v, r = some v ∧
      Wp C A (letOwnedTupleGo target it v) (fun _ h2 => Wp C A (assign target env v) (fun _ h3 => Wp C A (compTs ifs env) (fun ok h4 =>
          if ok = true then Wp C A (eval elt env) (fun x h5 => Wp C A (call (.builtin "list.append") [acc, x]) (fun _ h6 => J h6) h5) h4
          else J h4) h3) h2) h1) h)
    (fin : ∀ h, I n h → Wp C A (pyNext it) (fun r h1 => r = none ∧ X h1) h) :
    ∀ i h, i ≤ n → I i h → Cp C A (.compLoop (.ListComp elt [⟨target, iter, ifs, 0⟩] scope pos) 0 it acc env) (fun f h' => f = .next ∧ X h') h := by
  have go : ∀ m i h, i + m = n → I i h → Cp C A (.compLoop (.ListComp elt [⟨target, iter, ifs, 0⟩] scope pos) 0 it acc env) (fun f h' => f = .next ∧ X h') h := by
    intro m
    induction m with
    | zero =>
      intro i h e q
      obtain rfl : i = n := by lia
      refine cp_comp ((fin h q).mono fun r h1 q1 => ?_)
      obtain ⟨rfl, q1⟩ := q1
      exact ⟨rfl, q1⟩
    | succ m ih =>
      intro i h e q
      refine cp_comp ((turn i h (by lia) q _ (fun {_} z => z)).mono fun r h1 q1 => ?_)
      obtain ⟨v, rfl, q1⟩ := q1
      refine q1.mono fun _ h2 q2 => q2.mono fun _ h3 q3 => q3.mono fun ok h4 q4 => ?_
      cases ok with
      | false =>
        simp only [Bool.false_eq_true, if_false] at q4 ⊢
        exact ih (i + 1) h4 (by lia) q4
      | true =>
        simp only [if_true] at q4 ⊢
        exact q4.mono fun x h5 q5 => q5.mono fun _ h6 q6 => ih (i + 1) h6 (by lia) q6
  exact fun i h hi q => go (n - i) i h (by lia) q
theorem w_assignName {x : Str} {p : Pos} {v : Value} {Q : Unit → Heap → Prop} (y : Wp C A (storeName env x v) Q h) : Wp C A (assign (.Name x p) env v) Q h :=
  Wp.bind (Wp.standAt fun t => wpAny_bindName (y t))
theorem w_listComp {elt target iter : Expr} {ifs : List Expr} {rest : List Comprehension} {scope : Scope} {pos : Pos} {cl : List (Str × Addr)} {ks : List Str} {Q : Value → Heap → Prop}
    (hclos : closureFor scope env = Pure.pure cl) (hkind : scope.kind = .function) (hnames : ∀ x ∈ scope.names, x.2 = .local → scope.names.lookup x.1 = some .local) (hcell : ∀ x ∈ scope.names, x.2 ≠ .cell)
    (lk : ∀ L, LocK (compEnvC scope cl L env) ks)
    (h1 : Wp C A (eval iter env) (fun x h1 => Wp C A (pyIter x) (fun it h2 => ∃ cs2, St env h₀ l cs2 h2 ∧ ∀ acc L oL h3, St (compEnvC scope cl L env) h₀ (ks.map fun k => (k, none)) ((env.locals, .raw oL) :: (acc, .list []) :: cs2) h3 →
      Cp C A (.compStart (.ListComp elt (⟨target, iter, ifs, 0⟩ :: rest) scope pos) 0 it (.ref acc) (compEnvC scope cl L env)) (fun f h4 => f = .next ∧ ∃ l3 cs3 ps, St (compEnvC scope cl L env) h₀ l3 ((env.locals, .raw oL) :: (acc, .list ps) :: cs3) h4 ∧
        ∀ h6, St env h₀ l ((acc, .list ps) :: cs3) h6 → Q (.ref acc) h6) h3) h1) h)
    (hs : ∀ x, foldedSetIterable iter env x = Pure.pure x := by intro _; rfl) :
    Wp C A (eval (.ListComp elt (⟨target, iter, ifs, 0⟩ :: rest) scope pos) env) Q h := by
  rw [eval_ListComp]
  show Wp C A (comprehension (.ListComp elt (⟨target, iter, ifs, 0⟩ :: rest) scope pos) scope env _ (newList []) false (eval iter env)) Q h
  refine w_comprehension (h₀ := h₀) (l := l) rfl hs hclos hkind hnames hcell lk (h1.mono fun x h1 q1 => q1.mono fun it h2 q2 => ?_)
  obtain ⟨cs2, Z, q⟩ := q2
  refine ⟨cs2, Z, fun acc L oL h3 Z3 => (q acc L oL h3 Z3).mono fun f h4 q4 => ?_⟩
  obtain ⟨e, l3, cs3, ps, Z4, k⟩ := q4
  exact ⟨e, l3, cs3, ps, Z4, fun h5 _ h6 Z6 => k h6 Z6⟩
theorem x_assignComp {elt target iter : Expr} {ifs : List Expr} {rest0 : List Comprehension} {scope : Scope} {pos spos py : Pos} {y : Str} {cl : List (Str × Addr)} {ks : List Str} {rest : List Stmt} {Q : Flow → Heap → Prop}
    (hclos : closureFor scope env = Pure.pure cl) (hkind : scope.kind = .function) (hnames : ∀ x ∈ scope.names, x.2 = .local → scope.names.lookup x.1 = some .local) (hcell : ∀ x ∈ scope.names, x.2 ≠ .cell)
    (lk : ∀ L, LocK (compEnvC scope cl L env) ks)
    (h1 : Wp C A (eval iter env) (fun x h1 => Wp C A (pyIter x) (fun it h2 => ∃ cs2, St env h₀ l cs2 h2 ∧ ∀ acc L oL h3, St (compEnvC scope cl L env) h₀ (ks.map fun k => (k, none)) ((env.locals, .raw oL) :: (acc, .list []) :: cs2) h3 →
      Cp C A (.compStart (.ListComp elt (⟨target, iter, ifs, 0⟩ :: rest0) scope pos) 0 it (.ref acc) (compEnvC scope cl L env)) (fun f h4 => f = .next ∧ ∃ l3 cs3 ps l', St (compEnvC scope cl L env) h₀ l3 ((env.locals, .raw oL) :: (acc, .list ps) :: cs3) h4 ∧
        Put y (.ref acc) l l' ∧ ∀ h6, St env h₀ l' ((acc, .list ps) :: cs3) h6 → Wp C A (execs rest env) Q h6) h3) h1) h)
    (hsw : swapsWith (.ListComp elt (⟨target, iter, ifs, 0⟩ :: rest0) scope pos) (some (.Name y py)) spos.line env = Pure.pure true)
    (hs : ∀ x, foldedSetIterable iter env x = Pure.pure x := by intro _; rfl) :
    Wp C A (execs (.Assign [.Name y py] (.ListComp elt (⟨target, iter, ifs, 0⟩ :: rest0) scope pos) spos :: rest) env) Q h := by
  refine x_cons ?_
  have e := exec_Assign_Name_used (env := env) y py _ spos hsw
  rw [e]
  refine Wp.bind (Wp.standAt (Wp.bind ?_))
  show Wp C A (do let _ ← comprehension (.ListComp elt (⟨target, iter, ifs, 0⟩ :: rest0) scope pos) scope env _ (newList []) false (eval iter env) (some (assign (.Name y py) env))) _ _
  refine Wp.bind (w_comprehension (h₀ := h₀) (l := l) rfl hs hclos hkind hnames hcell lk (h1.mono fun x h1 q1 => q1.mono fun it h2 q2 => ?_))
  obtain ⟨cs2, Z, q⟩ := q2
  refine ⟨cs2, Z, fun acc L oL h3 Z3 => (q acc L oL h3 Z3).mono fun f h4 q4 => ?_⟩
  obtain ⟨e, l3, cs3, ps, l', Z4, hp, k⟩ := q4
  refine ⟨e, l3, cs3, ps, Z4, fun h5 Z5 => ?_⟩
  refine w_assignName (w_store Z5 rfl hp fun h6 Z6 => ⟨l', _, Z6, fun h7 Z7 => Wp.pure (Wp.pure (k h7 Z7))⟩)
end

noncomputable def vp : PV → Value
  | .none => .none | .ell => .ellipsis | .ni => .notImplemented
  | .bool b => .bool b | .int i => .int i 0 | .flt b => .float b 0 | .str s => .str s 0 | .bytes b => .bytes b 0
  | .typ n => .type n | .bi i => .builtin i | .ref a => .ref a
theorem pv_vp (p : PV) : pv (vp p) = p := by cases p <;> rfl
theorem map_pv_vp (ps : List PV) : (ps.map vp).map pv = ps := by
  rw [List.map_map]
  conv => rhs; rw [← List.map_id ps]
  exact List.map_congr_left fun p _ => pv_vp p
noncomputable def pickL (ps : List PV) (lo hi st : Option Int) : List PV :=
  (sliceRange (sliceBounds lo hi st ps.length).1 (sliceBounds lo hi st ps.length).2.1 (sliceBounds lo hi st ps.length).2.2).filterMap (ps[·]?)
theorem pick_pv {vs : Array Value} {ps : List PV} (e : vs.toList.map pv = ps) (lo hi st : Option Int) : (slicePick vs lo hi st).toList.map pv = pickL ps lo hi st := by
  subst e
  unfold slicePick pickL
  rw [List.length_map, Array.length_toList, List.map_filterMap]
  congr 1
  funext i
  rw [List.getElem?_map]; simp
theorem pick_vp (ps : List PV) (lo hi st : Option Int) : pickL ps lo hi st = (slicePick (ps.map vp).toArray lo hi st).toList.map pv := (pick_pv (by simpa using map_pv_vp ps) lo hi st).symm
theorem pick_upto (ps : List PV) (b : Nat) : pickL ps none (some (b : Int)) none = ps.take b := by
  rw [pick_vp, slicePick_upto']; simp only [List.toList_toArray, List.map_take, map_pv_vp]
theorem pick_butLast (ps : List PV) (k : Nat) (hk : 1 ≤ k) : pickL ps none (some (-(k : Int))) none = ps.take (ps.length - k) := by
  rw [pick_vp, slicePick_butLast _ _ hk]; simp only [List.toList_toArray, List.map_take, map_pv_vp, List.size_toArray, List.length_map]
theorem pick_init (ps : List PV) : pickL ps none (some (-1)) none = ps.dropLast := by
  have := pick_butLast ps 1 (Nat.le_refl _)
  rw [show (-((1 : Nat) : Int)) = -1 from rfl] at this
  rw [this, List.dropLast_eq_take]
theorem pick_run (ps : List PV) (a b : Nat) (hb : b ≤ ps.length) (hab : a ≤ b) : pickL ps (some (a : Int)) (some (b : Int)) none = (ps.drop a).take (b - a) := by
  rw [pick_vp, slicePick_run _ _ _ (by simpa using hb) hab]; simp only [List.toList_toArray, List.map_take, List.map_drop, map_pv_vp]
theorem pick_rev (ps : List PV) : pickL ps none none (some (-1)) = ps.reverse := by
  rw [pick_vp, krv_pick]; simp only [List.toList_toArray, List.map_reverse, map_pv_vp]
section
variable {C : Cx} {A : Around} {h h₀ h' : Heap} {env : Env} {l l' : List (Str × Option PV)} {cs cs' : List (Addr × AO)} {K : Frag}
theorem w_subscript {e i : Expr} {pos : Pos} {Q : Value → Heap → Prop} (x : Wp C A (eval e env) (fun o h1 => Wp C A (eval i env) (fun k h2 => Wp C A (subscriptTail e i o k) Q h2) h1) h) : Wp C A (eval (.Subscript e i pos) env) Q h :=
  fun t => Subscript_ (x.seq t fun _ _ t1 q1 => q1.seq t1 fun _ _ t2 q2 => q2 t2)
noncomputable def Pp (C : Cx) (A : Around) (env : Env) (h : Heap) : Option Expr → Option Int → Prop
  | none, none => True
  | some e, some i => Pe C A env h e (.int i)
  | _, _ => False
theorem Pp.use {e : Option Expr} {o : Option Int} {Q : Value → Heap → Prop} (x : Pp C A env h e o) (k : ∀ v, IsPart v o → Q v h) : Wp C A (evalPart e env) Q h := by
  cases e with
  | none =>
    cases o with
    | none => exact Wp.pure (k _ .none)
    | some _ => exact x.elim
  | some e =>
    cases o with
    | none => exact x.elim
    | some i => exact x _ fun v hv => by obtain ⟨t, rfl⟩ := pv_int hv; exact k _ (.int i t)
theorem w_sliceTail {e : Expr} {a : Addr} {ps : List PV} {elo ehi est : Option Expr} {lo hi st : Option Int} {p : Pos} {Q : Value → Heap → Prop} (Z : St env h₀ l cs h) (o : Own h a (.list ps)) (p1 : Pp C A env h elo lo) (p2 : Pp C A env h ehi hi) (p3 : Pp C A env h est st) (h0 : st ≠ some 0) (hz : ps.length ≤ sizeLine)
    (k : ∀ r h', St env h₀ l ((r, .list (pickL ps lo hi st)) :: cs) h' → Q (.ref r) h')
    (hs : ∀ s, ∃ ops, subscripted (.Slice elo ehi est p) false (.ref a) (.ref s) = operate ops (getItem (.ref a) (.ref s)) := by intro _; exact ⟨_, by with_unfolding_all rfl⟩) :
    Wp C A (eval (.Slice elo ehi est p) env) (fun kv h2 => Wp C A (subscriptTail e (.Slice elo ehi est p) (.ref a) kv) Q h2) h := fun t => by
  refine wpAny_Slice ((p1.use fun vl hl => ?_ : Wp C A (evalPart elo env) (fun vl h1 => ∀ t, wpAny C.M A (evalPart ehi env) (fun vu s2 => wpAny C.M A (evalPart est env) (fun vs s3 => ∃ h' t', ({ s3 with heap := s3.heap.push { cls := .type "slice", data := .fields #[vl, vu, vs] } } : Shared) = C.st h' t' ∧ Wp C A (subscriptTail e (.Slice elo ehi est p) (.ref a) (.ref s3.heap.objs.size)) Q h') (fun _ _ => False) s2) (fun _ _ => False) (C.st h1 t)) h).seq t fun vl h1 t1 q1 => q1 t1)
  intro t
  refine (p2.use fun vu hu => ?_ : Wp C A (evalPart ehi env) (fun vu h1 => ∀ t, wpAny C.M A (evalPart est env) (fun vs s3 => ∃ h' t', ({ s3 with heap := s3.heap.push { cls := .type "slice", data := .fields #[vl, vu, vs] } } : Shared) = C.st h' t' ∧ Wp C A (subscriptTail e (.Slice elo ehi est p) (.ref a) (.ref s3.heap.objs.size)) Q h') (fun _ _ => False) (C.st h1 t)) h).seq t fun vu h1 t1 q1 => q1 t1
  intro t
  refine (p3.use fun vs hv => ?_ : Wp C A (evalPart est env) (fun vs h1 => ∀ t, ∃ h' t', ({ C.st h1 t with heap := h1.push { cls := .type "slice", data := .fields #[vl, vu, vs] } } : Shared) = C.st h' t' ∧ Wp C A (subscriptTail e (.Slice elo ehi est p) (.ref a) (.ref h1.objs.size)) Q h') h).seq t fun vs h1 t1 q1 => q1 t1
  intro t
  refine ⟨_, _, rfl, fun t => ?_⟩
  obtain ⟨arr, il, ev⟩ := own_isList o
  have hsz : arr.size = ps.length := by rw [← ev, List.length_map]; simp
  obtain ⟨ops, hs⟩ := hs h.objs.size
  refine tail_any (T := "list") ?_ slot_list_getitem.lookup (wpAny_getItem_list_slice (il.push _) (Heap.IsSliceOf.new ..) hl hu hv h0 ?_ (by rw [hsz]; exact hz)) hs
  · exact Heap.IsList.typeIs (s := C.st (h.push _) t) (il.push _)
  · refine ⟨_, _, rfl, k _ _ ((Z.push (x := .raw _) rfl).push (x := .list (pickL ps lo hi st)) ⟨_, _, rfl, pick_pv ev lo hi st⟩).swap.drop⟩
theorem w_tailList {e i : Expr} {a : Addr} {k j : Int} {u : Tok} {ps : List PV} {p : PV} {Q : Value → Heap → Prop} (o : Own h a (.list ps)) (hj : j = if k < 0 then k + ps.length else k) (h0 : 0 ≤ j) (h1 : ps.length < 2 ^ 62) (hp : ps[j.toNat]? = some p) (kk : ∀ v, pv v = p → Q v h)
    (hs : ∃ ops, subscripted i false (.ref a) (.int k u) = operate ops (getItem (.ref a) (.int k u)) := by exact ⟨_, by with_unfolding_all rfl⟩) : Wp C A (subscriptTail e i (.ref a) (.int k u)) Q h := fun t => by
  obtain ⟨vs, hl, ev⟩ := own_isList o
  obtain ⟨v, hv, pvv⟩ := map_pv_get ev hp
  obtain ⟨ops, hs⟩ := hs
  have hlt := (List.getElem?_eq_some_iff.mp hp).1
  have hsz : vs.size = ps.length := by rw [← ev, List.length_map]; simp
  by_cases hk : k < 0
  · rw [if_pos hk] at hj
    exact tail_any hl.typeIs slot_list_getitem.lookup (wpAny_getItem_list_neg hl hk (by rw [hsz]; lia) (by lia) (by rw [hsz, ← hj]; exact hv) ⟨_, _, rfl, kk v pvv⟩) hs
  · rw [if_neg hk] at hj
    subst hj
    exact tail_any hl.typeIs slot_list_getitem.lookup (wpAny_getItem_list hl h0 (by lia) hv ⟨_, _, rfl, kk v pvv⟩) hs
theorem w_tailTup {e i : Expr} {a : Addr} {k : Int} {u : Tok} {ps : List PV} {p : PV} {Q : Value → Heap → Prop} (o : Own h a (.tup ps)) (h0 : 0 ≤ k) (h1 : k < 2 ^ 62) (hp : ps[k.toNat]? = some p) (kk : ∀ v, pv v = p → Q v h)
    (hs : ∃ ops, subscripted i false (.ref a) (.int k u) = operate ops (getItem (.ref a) (.int k u)) := by exact ⟨_, by with_unfolding_all rfl⟩) : Wp C A (subscriptTail e i (.ref a) (.int k u)) Q h := fun t => by
  obtain ⟨_, eo, vs, n, rfl, ev⟩ := o
  obtain ⟨v, hv, pvv⟩ := map_pv_get ev hp
  obtain ⟨ops, hs⟩ := hs
  have hl : IsTup h a vs.toList.toArray := ⟨_, eo, rfl, n, by simp⟩
  have hlt := (List.getElem?_eq_some_iff.mp hp).1
  have hsz : vs.toList.length = ps.length := by rw [← ev, List.length_map]
  refine tail_any ⟨_, eo, rfl⟩ slot_tuple_getitem.lookup (getItem_tuple (j := k.toNat) hl (by lia) (by lia) ?_ (by simpa using hv) ⟨_, _, rfl, kk v pvv⟩) hs
  have hk : ¬ k < 0 := by lia
  have hk2 : k < (vs.toList.length : Int) := by rw [hsz]; lia
  unfold seqIndex?
  simp only [hk, if_false, List.size_toArray]
  rw [if_pos (by simp only [Bool.and_eq_true, decide_eq_true_eq]; exact ⟨h0, hk2⟩)]
theorem w_index {e i : Expr} {pos : Pos} {Q : Value → Heap → Prop} (x : Wp C A (eval e env) (fun o h1 => ∃ k : Int, Pe C A env h1 i (.int k) ∧ ∀ u, Wp C A (subscriptTail e i o (.int k u)) Q h1) h) : Wp C A (eval (.Subscript e i pos) env) Q h :=
  w_subscript (x.mono fun o h1 ⟨k, q1, q2⟩ => q1 _ fun v hv => by obtain ⟨u, rfl⟩ := pv_int hv; exact q2 u)
theorem e_itemN {e i : Expr} {pos : Pos} {a : Addr} {k j : Int} {ps : List PV} {p : PV} (x : Pe C A env h e (.ref a)) (y : Pe C A env h i (.int k)) (o : Own h a (.list ps)) (hj : j = if k < 0 then k + ps.length else k) (h0 : 0 ≤ j) (h1 : ps.length < 2 ^ 62) (hp : ps[j.toNat]? = some p)
    (hs : ∀ u, ∃ ops, subscripted i false (.ref a) (.int k u) = operate ops (getItem (.ref a) (.int k u)) := by intro _; exact ⟨_, by with_unfolding_all rfl⟩) : Pe C A env h (.Subscript e i pos) p := fun Q kk =>
  w_index (x _ fun v hv => by obtain rfl := pv_ref hv; exact ⟨k, y, fun u => w_tailList o hj h0 h1 hp kk (hs u)⟩)
theorem w_BinOp2 {a b : Expr} {op : Operator} {pos : Pos} {Q : Value → Heap → Prop} (x : Wp C A (eval a env) (fun u h1 => Wp C A (eval b env) (fun v h2 => Wp C A (binaryOp op u v) Q h2) h1) h) : Wp C A (eval (.BinOp a op b pos) env) Q h := Wp.BinOp x
theorem w_addList {a b : Addr} {ps qs : List PV} {Q : Value → Heap → Prop} (Z : St env h₀ l cs h) (o1 : Own h a (.list ps)) (o2 : Own h b (.list qs)) (hz : ps.length + qs.length ≤ sizeLine) (k : ∀ r h', St env h₀ l ((r, .list (ps ++ qs)) :: cs) h' → Q (.ref r) h') :
    Wp C A (binaryOp .Add (.ref a) (.ref b)) Q h := fun t => by
  obtain ⟨vs, n, eo, ev⟩ := own_list o1
  obtain ⟨ws, n2, eo2, ew⟩ := own_list o2
  have hsz : vs.size = ps.length := by rw [← ev, List.length_map]; simp
  have hsz2 : ws.size = qs.length := by rw [← ew, List.length_map]; simp
  refine concat_meets ⟨_, eo, rfl⟩ ⟨_, eo2, rfl⟩ noFill_list_add seq_list_add PySem.F.slot_list_add PySem.F.entry_list_add (PySem.F.args_list_add_2 _ _) (list_addW a b vs ws n n2 none none #[] #[] (by rw [hsz, hsz2]; exact hz)) ⟨eo, eo2, ?_⟩
  exact ⟨_, _, rfl, k _ _ (Z.push ⟨_, _, rfl, by rw [Array.toList_append, List.map_append, ev, ew]⟩)⟩
theorem mt_list {name : Str} {id : String} {a : Addr} {ps : List PV} (o : Own h a (.list ps)) (sl : Slot "list" name id) (ty : typeOf (.builtin id) = Pure.pure (.type "method_descriptor")) : Mt C A h (.ref a) name (.builtin id) [.ref a] := by
  obtain ⟨vs, n, eo, ev⟩ := own_list o
  exact ⟨fun pl R k => gm_slot (ov := .ref a) F.plainAttrs_list sl ty (fun t => ⟨_, eo, rfl⟩) (fun b e => by cases e; exact ⟨_, eo, rfl⟩) pl R k⟩
theorem x_assignW {x : Str} {p1 pos : Pos} {e : Expr} {rest : List Stmt} {Q : Flow → Heap → Prop}
    (y : Wp C A (eval e env) (fun v h1 => ∃ p h0 l1 l2 cs1, pv v = p ∧ St env h0 l1 cs1 h1 ∧ Put x p l1 l2 ∧ ∀ h2, St env h0 l2 cs1 h2 → Wp C A (execs rest env) Q h2) h) (hs : swapsWith e (some (.Name x p1)) pos.line env = pure false := by rfl) :
    Wp C A (execs (.Assign [.Name x p1] e pos :: rest) env) Q h :=
  x_assign' (y.mono fun v h1 q => by obtain ⟨p, h0, l1, l2, cs1, e, Z, pt, k⟩ := q; exact w_store Z e pt k) hs
end

theorem rng_small {a b c : Int} (ha : -(2 ^ 40) < a ∧ a < 2 ^ 40) (hb : -(2 ^ 40) < b ∧ b < 2 ^ 40) (hc : -(2 ^ 40) < c ∧ c < 2 ^ 40) (hn : 0 ≤ Builtin.Range.rangeSize a b c ∧ Builtin.Range.rangeSize a b c < 2 ^ 40) : Builtin.Range.small a b c = true := by
  unfold Builtin.Range.small
  have fl : ∀ i : Int, -(2 ^ 62) < i → i < 2 ^ 62 → Builtin.Range.rangeFitsLong i = true := fun i a b => by
    unfold Builtin.Range.rangeFitsLong
    simp only [Bool.and_eq_true, decide_eq_true_eq]; lia
  simp only [Bool.and_eq_true]
  refine ⟨by (repeat' constructor) <;> (apply fl <;> lia), ?_⟩
  rw [Bool.or_eq_true]
  refine .inr ?_
  split <;> (apply fl <;> lia)
section
variable {C : Cx} {A : Around} {h h₀ h' : Heap} {env : Env} {l l' : List (Str × Option PV)} {cs cs' : List (Addr × AO)} {K : Frag}
theorem w_extend {a b : Addr} {ps qs : List PV} {Q : Value → Heap → Prop} (Z : St env h₀ l cs h) (c : CAt cs a (.list ps)) (c' : CSet a (.list (ps ++ qs)) cs cs') (o : Own h b (.list qs)) (hz : ps.length + qs.length ≤ sizeLine)
    (k : ∀ h', St env h₀ l cs' h' → Q .none h') : Wp C A (call (.builtin "list.extend") [.ref a, .ref b]) Q h := fun t => by
  obtain ⟨vs, n, eo, ev⟩ := own_list (Z.get c)
  obtain ⟨ws, n2, eo2, ew⟩ := own_list o
  have hsz : vs.size = ps.length := by rw [← ev, List.length_map]; simp
  have hsz2 : ws.size = qs.length := by rw [← ew, List.length_map]; simp
  refine call_meets PySem.F.slot_list_extend ⟨_, eo, rfl⟩ PySem.F.entry_list_extend (PySem.F.args_list_extend_2 _ _) (AutoSeq1.list_extend_list_list_0 a vs n b ws n2 (extend_door (by lia)) (by lia) (by lia)) ⟨eo, eo2, _, _, rfl, k _ (Z.upd c' (Heap.SameBut.update ..) ?_)⟩
  exact ⟨_, Heap.get?_update_self _ eo rfl, _, _, rfl, by rw [Array.toList_append, List.map_append, ev, ew]⟩
theorem x_mcall {o : Expr} {name : Str} {es : List Expr} {apos p1 pos : Pos} {rest : List Stmt} {Q : Flow → Heap → Prop}
    (x : Wp C A (eval o env) (fun ov h1 => ∃ f first, Mt C A h1 ov name f first ∧ Wp C A (callWith p1 f first (backTo p1 (starEach es env)) []) (fun v h2 => (∀ a, v ≠ .ref a) ∧ Wp C A (execs rest env) Q h2) h1) h)
    (hi : interactive env = false) (hss : swapsWith (.Call (.Attribute o name apos) es [] p1) none pos.line env = Pure.pure false := by rfl)
    (hfew : ((backTo p1 (starEach es env)).all (fun x => !x.1) && (backToKw p1 (keywordEach [] env)).all (fun x => x.1.isSome) && decide (es.length + ([] : List Keyword).length + (if ([] : List Keyword).isEmpty then 0 else 1) < 30)) = true := by rfl)
    (hbase : attributeBase o name env (eval o env) = eval o env := by rfl) (hline : (apos.endLine == p1.line) = true := by rfl) :
    Wp C A (execs (.Expr (.Call (.Attribute o name apos) es [] p1) pos :: rest) env) Q h :=
  x_expr (w_mcall x hfew hbase hline) hi hss
end
noncomputable def octNum (ws : List Int) : Int := ws.foldl (fun n v => n * 64 + v) 0
noncomputable def octThree (n : Int) : List Int := [n.fdiv 65536, (n.fdiv 256).fmod 256, n.fmod 256]
noncomputable def octAll (pad : List Int) : Nat → List Int
  | 0 => []
  | m + 1 => octAll pad m ++ octThree (octNum ((pad.drop (4 * m)).take 4))
theorem octAll_c {pad : List Int} {m : Nat} : octAll pad (m + 1) = octAll pad m ++ octThree (octNum ((pad.drop (4 * m)).take 4)) := rfl
theorem octAll_len (pad : List Int) : ∀ m, (octAll pad m).length = 3 * m
  | 0 => rfl
  | m + 1 => by rw [octAll_c, List.length_append, octAll_len pad m]; simp [octThree]; lia
theorem octNum_take {ws : List Int} {i : Nat} {b : Int} (h : ws[i]? = some b) : octNum (ws.take (i + 1)) = octNum (ws.take i) * 64 + b := by
  unfold octNum
  rw [List.take_succ, h]; simp
theorem octNum_lt : ∀ {ws : List Int} {n : Int} {m : Nat}, (∀ v ∈ ws, 0 ≤ v ∧ v < 64) → 0 ≤ n → n < 64 ^ m → 0 ≤ ws.foldl (fun n v => n * 64 + v) n ∧ ws.foldl (fun n v => n * 64 + v) n < 64 ^ (m + ws.length)
  | [], n, m, _, h0, h1 => ⟨h0, by simpa using h1⟩
  | v :: ws, n, m, hv, h0, h1 => by
    have b := hv v (.head _)
    have := octNum_lt (ws := ws) (n := n * 64 + v) (m := m + 1) (fun u hu => hv u (.tail _ hu)) (by lia) (by rw [Int.pow_succ]; lia)
    rw [List.foldl_cons, List.length_cons, show m + (ws.length + 1) = m + 1 + ws.length by lia]
    exact this
theorem octNum_bd {ws : List Int} (hv : ∀ v ∈ ws, 0 ≤ v ∧ v < 64) (hl : ws.length ≤ 4) : 0 ≤ octNum ws ∧ octNum ws < 16777216 := by
  have := octNum_lt (n := 0) (m := 0) hv (by decide) (by decide)
  refine ⟨this.1, Int.lt_of_lt_of_le this.2 ?_⟩
  rw [Nat.zero_add]
  rcases (by lia : ws.length = 0 ∨ ws.length = 1 ∨ ws.length = 2 ∨ ws.length = 3 ∨ ws.length = 4) with e | e | e | e | e <;> rw [e] <;> decide
theorem octThree_bd {n : Int} (h0 : 0 ≤ n) (h1 : n < 16777216) : ∀ v ∈ octThree n, 0 ≤ v ∧ v < 256 := by
  intro v m
  unfold octThree at m
  rw [Int.fdiv_eq_ediv_of_nonneg _ (by decide), Int.fdiv_eq_ediv_of_nonneg _ (by decide), Int.fmod_eq_emod_of_nonneg _ (by decide), Int.fmod_eq_emod_of_nonneg _ (by decide)] at m
  simp only [List.mem_cons, List.not_mem_nil, or_false] at m
  lia
theorem octAll_bd {pad : List Int} (hv : ∀ v ∈ pad, 0 ≤ v ∧ v < 64) : ∀ m, ∀ v ∈ octAll pad m, 0 ≤ v ∧ v < 256
  | 0, v, hm => absurd hm List.not_mem_nil
  | m + 1, v, hm => by
    rw [octAll_c, List.mem_append] at hm
    rcases hm with hm | hm
    · exact octAll_bd hv m v hm
    · have := octNum_bd (ws := (pad.drop (4 * m)).take 4) (fun v hv' => hv v (List.mem_of_mem_drop (List.mem_of_mem_take hv'))) (by simp; lia)
      exact octThree_bd this.1 this.2 v hm

theorem mem_of_lookup {α : Type} : ∀ {l : List (Str × α)} {x : Str} {v : α}, l.lookup x = some v → (x, v) ∈ l
  | (y, w) :: l, x, v, e => by
    rw [List.lookup] at e
    cases q : x == y with
    | true =>
      rw [q] at e
      have : x = y := by simpa using q
      cases e; subst this; exact .head _
    | false => rw [q] at e; exact .tail _ (mem_of_lookup e)
theorem bindC_at {kindOf : Str → Option NameKind} {n : Str} (hk : kindOf n ≠ some .local) : ∀ (b : List (Str × Value)) (m : Str → Option Value), (b.map (·.1)).Nodup → bindC kindOf b m n = match b.lookup n with | some v => some v | none => m n
  | [], m, _ => rfl
  | (a, v) :: r, m, nd => by
    obtain ⟨n1, n2⟩ := List.nodup_cons.mp nd
    rw [bindC, bindC_at hk r _ n2]
    by_cases e : n = a
    · subst e
      have : r.lookup n = none := by
        cases q : r.lookup n with
        | none => rfl
        | some w => exact absurd (List.mem_map.mpr ⟨_, mem_of_lookup q, rfl⟩) n1
      simp [this, hk, List.lookup]
    · have : (n == a) = false := by simpa using e
      rw [List.lookup, this]
      cases r.lookup n with
      | some w => rfl
      | none =>
        dsimp only
        split
        · rfl
        · simp [e]
theorem bindL_at {kindOf : Str → Option NameKind} {n : Str} (hk : kindOf n = some .local) : ∀ (b : List (Str × Value)) (m : Str → Option Value), (b.map (·.1)).Nodup → bindL kindOf b m n = match b.lookup n with | some v => some v | none => m n
  | [], m, _ => rfl
  | (a, v) :: r, m, nd => by
    obtain ⟨n1, n2⟩ := List.nodup_cons.mp nd
    rw [bindL, bindL_at hk r _ n2]
    by_cases e : n = a
    · subst e
      have : r.lookup n = none := by
        cases q : r.lookup n with
        | none => rfl
        | some w => exact absurd (List.mem_map.mpr ⟨_, mem_of_lookup q, rfl⟩) n1
      simp [this, hk, List.lookup]
    · have : (n == a) = false := by simpa using e
      rw [List.lookup, this]
      cases r.lookup n with
      | some w => rfl
      | none =>
        dsimp only
        split
        · simp [e]
        · rfl
theorem zip_lookup {xs : List Str} : ∀ {vs : List Value} {n : Str}, ((xs.zip vs).lookup n).map pv = (xs.zip (vs.map pv)).lookup n := by
  induction xs with
  | nil => intro vs n; rfl
  | cons x xs ih =>
    intro vs n
    cases vs with
    | nil => rfl
    | cons v vs =>
      rw [List.map_cons, List.zip_cons_cons, List.zip_cons_cons, List.lookup, List.lookup]
      cases q : n == x with
      | true => rfl
      | false => exact ih
structure FnC (K : Frag) (f : Addr) (xs ks zs : List Str) (body : List Stmt) : Prop where
  e : isFnOf K f = true
  b : (fdOf K f).body = .stmts body
  clo : (fdOf K f).closure = []
  kinds : (xs.all fun x => (fdOf K f).scope.names.lookup x == some .local || ((fdOf K f).scope.names.lookup x == some .cell && zs.contains x)) = true
  lk : ∀ L, LocK (callEnvC (fdOf K f) L f) ks
  nd : xs.Nodup
  zn : (cellsFrom 0 (fdOf K f).scope.names []).map (·.1) = zs
  ndc : zs.Nodup
  cellk : (zs.all fun x => (fdOf K f).scope.names.lookup x == some .cell) = true
  co : (fdOf K f).scope.isCoroutine = false
  gen : (fdOf K f).scope.isGenerator = false
  kind : (fdOf K f).scope.kind = .function
section
variable {C : Cx} {A : Around} {h h₀ h' : Heap} {env : Env} {l l' : List (Str × Option PV)} {K : Frag}
theorem lookup_isSome {α : Type} : ∀ {l : List (Str × α)} {x : Str}, x ∈ l.map (·.1) → (l.lookup x).isSome = true
  | (y, w) :: l, x, m => by
    rw [List.lookup]
    cases q : x == y with
    | true => rfl
    | false =>
      rcases List.mem_cons.mp (show x ∈ y :: l.map (·.1) from m) with e | e
      · rw [e] at q; simp at q
      · exact lookup_isSome e
theorem fnC_enter {cs : Addr → List (Addr × AO)} {f : Addr} {vs vs' : List Value} {kw : List (Str × Value)} {ps : List PV} {xs ks zs : List Str} {body : List Stmt} {n : Nat} {Q : Value → Heap → Prop} (F : FnC K f xs ks zs body) (hA : Rm (n + 1) A) (G : Gd K h)
    (hv : vs.map pv = ps) (hlen : vs.length = xs.length) (hbind : Bd C h (fdOf K f) vs' kw (xs.zip vs))
    (hl : l = ks.map fun x => (x, (xs.zip ps).lookup x)) (hcs : ∀ L, cs L = (cellsFrom (L + 1) (fdOf K f).scope.names []).map fun x => (x.2, celO ((xs.zip ps).lookup x.1)))
    (k : ∀ {A' : Around} L h₁, St (callEnvC (fdOf K f) L f) h l (cs L) h₁ → Gd K h₁ → Rm n A' → Wp C A' (execs body (callEnvC (fdOf K f) L f)) (Fq Q) h₁) :
    Cp C A (.call (.ref f) ⟨vs', kw⟩) (fun fl h' => ∃ v, fl = .ret v ∧ Q v h') h := fun t => by
  obtain ⟨o, a, b, c⟩ := fn_at F.e
  have hnames : (xs.zip vs).map (·.1) = xs := List.map_fst_zip (by lia)
  refine codeAny_call_function hA.room (G.k _ _ a) b F.co F.gen F.b (codeRec_of G.k c) (hbind.out t _ _ _ _ ?_)
  rw [F.clo]
  have cn : ∀ n, (cellsFrom n (fdOf K f).scope.names []).map (·.1) = zs := fun n => (cellsFrom_names _ _ 0 _ _ rfl).trans F.zn
  refine wpAny_newFunctionEnv_cells F.kind (fun x hx => ?_) fun env he s' x => ?_
  · have hx1 : x.1 ∈ xs := by rw [← hnames]; exact List.mem_map.mpr ⟨x, hx, rfl⟩
    have := List.all_eq_true.mp F.kinds _ hx1
    rcases Bool.or_eq_true_iff.mp this with q | q
    · exact .inl (by simpa using q)
    · obtain ⟨q1, q2⟩ := Bool.and_eq_true_iff.mp q
      refine .inr ⟨by simpa using q1, lookup_isSome ?_⟩
      rw [cn]; simpa using q2
  subst he
  refine ⟨G.nolimit.keeps x.toInCall.keep, codeAny_func ?_⟩
  obtain ⟨h₁, tk, rfl, kp⟩ := x.done
  have hL : ∀ q, h.get? h.objs.size = some q → False := fun q e => by rw [get_size_none] at e; cases e
  have hlk : ∀ n, (callEnvC (fdOf K f) h.objs.size f).kindOf n = (fdOf K f).scope.names.lookup n := fun _ => rfl
  have nd2 : ((xs.zip vs).map (·.1)).Nodup := by rw [hnames]; exact F.nd
  have hks : l.map (·.1) = ks := by rw [hl, List.map_map]; exact List.map_id _
  have Z : St (callEnvC (fdOf K f) h.objs.size f) h l (cs h.objs.size) h₁ := by
    refine ⟨⟨_, x.toInCall.ns, fun y p hy => ?_⟩, by rw [hks]; exact F.lk _, kp, ?_, fun p hp => ?_, fun p hp => ?_, ?_⟩
    · have hyk : y ∈ ks := by rw [← hks]; exact List.mem_map.mpr ⟨_, hy, rfl⟩
      rw [hl] at hy
      obtain ⟨y', hy', e⟩ := List.mem_map.mp hy
      have e1 : y' = y := congrArg Prod.fst e
      have e2 : (xs.zip ps).lookup y' = some p := congrArg Prod.snd e
      subst e1
      have hloc := (F.lk h.objs.size).kinds y' hyk
      have e3 := bindL_at (kindOf := (callEnvC (fdOf K f) h.objs.size f).kindOf) hloc (xs.zip vs) (fun _ => none) nd2
      rw [← hv, ← zip_lookup] at e2
      cases q : (xs.zip vs).lookup y' with
      | none => rw [q] at e2; cases e2
      | some v =>
        rw [q] at e2 e3
        exact ⟨v, e3, Option.some.inj e2⟩
    · exact get_size_none h
    · rw [hcs] at hp
      obtain ⟨⟨n, c⟩, hm, e⟩ := List.mem_map.mp hp
      subst e
      have hnd : ((cellsFrom (h.objs.size + 1) (fdOf K f).scope.names []).map (·.1)).Nodup := by rw [cn]; exact F.ndc
      have hlook : (cellsFrom (h.objs.size + 1) (fdOf K f).scope.names []).lookup n = some c := lookup_of_mem hnd hm
      obtain ⟨o, eo, ed⟩ := x.cell n c hlook
      refine ⟨o, eo, _, ed, ?_⟩
      have hnc : (fdOf K f).scope.names.lookup n = some .cell := by
        have := List.all_eq_true.mp F.cellk n (by rw [← cn (h.objs.size + 1)]; exact List.mem_map.mpr ⟨_, hm, rfl⟩)
        simpa using this
      have e3 := bindC_at (kindOf := (callEnvC (fdOf K f) h.objs.size f).kindOf) (n := n) (by rw [hlk, hnc]; simp) (xs.zip vs) (fun _ => none) nd2
      show Option.map pv (bindC (callEnvC (fdOf K f) h.objs.size f).kindOf (xs.zip vs) (fun _ => none) n) = (xs.zip ps).lookup n
      rw [show bindC (callEnvC (fdOf K f) h.objs.size f).kindOf (xs.zip vs) (fun _ => none) n = (xs.zip vs).lookup n by rw [e3]; cases (xs.zip vs).lookup n <;> rfl]
      rw [zip_lookup, hv]
    · rw [hcs] at hp
      obtain ⟨⟨n, c⟩, hm, e⟩ := List.mem_map.mp hp
      subst e
      have := x.above n c hm
      exact Heap.get?_none_of_le (Nat.le_of_lt this)
    · refine List.nodup_cons.mpr ⟨fun m => ?_, ?_⟩
      · obtain ⟨p, hp, e⟩ := List.mem_map.mp m
        rw [hcs] at hp
        obtain ⟨⟨n, c⟩, hm, e2⟩ := List.mem_map.mp hp
        subst e2
        have := x.above n c hm
        exact absurd e (Nat.ne_of_gt this)
      · rw [hcs, List.map_map]
        have := x.apart
        exact List.pairwise_map.mpr (this.imp fun h => h)
  exact Wp.seq (k _ _ Z (G.keeps kp) (hA.deeper _)) _ fun fl h' t' q => ⟨_, _, _, rfl, rfl, _, rfl, q⟩
end

end Mine
namespace Mine
open PySem PySem.Sre
noncomputable def SW (code text : Array Nat) (s pc pos hd : Nat) (o : Bool) (fr : List Sre.Frame) (wt : Nat) (an : Option Bool) (seen : Seen) : M :=
  { code, text, lim := text.size, start := s, lastStart := text.size, pc, pos, handed := hd, outermost := o, marks := #[], frames := fr, weight := wt, answer := an, seen }
noncomputable def Goes (n : Nat) (f g : Seen → M) : Prop := ∀ seen, ∃ seen', M.runFor n (f seen) = g seen'
theorem runFor_add (a b : Nat) (m : M) : M.runFor (a + b) m = M.runFor b (M.runFor a m) := by
  induction a generalizing m with
  | zero => rw [Nat.zero_add]; rfl
  | succ a ih =>
    rw [Nat.succ_add]
    show (if m.outcome.isSome then m else M.runFor (a + b) m.step) = M.runFor b (if m.outcome.isSome then m else M.runFor a m.step)
    split
    · rename_i h
      cases b with
      | zero => rfl
      | succ b => show m = if m.outcome.isSome then m else _; rw [if_pos h]
    · exact ih _
theorem Goes.trans {a b : Nat} {f g k : Seen → M} (x : Goes a f g) (y : Goes b g k) : Goes (a + b) f k := fun seen => by
  obtain ⟨s1, e1⟩ := x seen
  obtain ⟨s2, e2⟩ := y s1
  exact ⟨s2, by rw [runFor_add, e1, e2]⟩
theorem Goes.one {f g : Seen → M} (h : ∀ seen, (f seen).outcome = none) (x : ∀ seen, ∃ seen', (f seen).step = g seen') : Goes 1 f g := fun seen => by
  obtain ⟨s1, e1⟩ := x seen
  refine ⟨s1, ?_⟩
  show (if (f seen).outcome.isSome then _ else M.runFor 0 (f seen).step) = _
  rw [h seen, e1]; rfl
section
variable {code text : Array Nat} {s pc pos hd : Nat} {o : Bool} {fr : List Sre.Frame} {wt : Nat}
theorem g_exec {g : Seen → M} (hpc : pc < code.size) (x : ∀ seen, ∃ seen', (SW code text s pc pos hd o fr wt none seen).exec = g seen') : Goes 1 (SW code text s pc pos hd o fr wt none) g :=
  Goes.one (fun _ => rfl) fun seen => by
    obtain ⟨s', e⟩ := x seen
    refine ⟨s', ?_⟩
    show (if pc < code.size then (SW code text s pc pos hd o fr wt none seen).exec else _) = _
    rw [if_pos hpc, e]
theorem g_lit {c : Nat} (h0 : code.getD pc 0 = 16) (h1 : code.getD (pc + 1) 0 = c) (hpc : pc < code.size) (hp : pos < text.size) (hc : text.getD pos 0 = c) : Goes 1 (SW code text s pc pos hd o fr wt none) (SW code text s (pc + 2) (pos + 1) hd o fr wt none) :=
  g_exec hpc fun seen => by
    have hlt : ¬ pos ≥ text.size := by lia
    unfold M.exec
    simp only [SW, M.word, Nat.add_zero, h0, show ops[16]? = some Op.LITERAL from rfl]
    rw [if_neg hlt]
    simp only [accepts, h0, h1, show ops[16]? = some Op.LITERAL from rfl, hc, beq_self_eq_true, itemWidth]
    exact ⟨_, rfl⟩
theorem g_lit_no {c : Nat} (h0 : code.getD pc 0 = 16) (h1 : code.getD (pc + 1) 0 = c) (hpc : pc < code.size) (hc : ¬ (pos < text.size ∧ text.getD pos 0 = c)) : Goes 1 (SW code text s pc pos hd o fr wt none) (SW code text s pc pos hd o fr wt (some false)) :=
  g_exec hpc fun seen => by
    unfold M.exec
    simp only [SW, M.word, Nat.add_zero, h0, show ops[16]? = some Op.LITERAL from rfl]
    by_cases hlt : pos ≥ text.size
    · rw [if_pos hlt]; exact ⟨_, rfl⟩
    · rw [if_neg hlt]
      have : (text.getD pos 0 == c) = false := by
        rw [beq_eq_false_iff_ne]; intro e; exact hc ⟨by lia, e⟩
      simp only [accepts, h0, h1, show ops[16]? = some Op.LITERAL from rfl, this]
      exact ⟨_, rfl⟩
theorem g_jump {j : Nat} (h0 : code.getD pc 0 = 15) (h1 : code.getD (pc + 1) 0 = j) (hpc : pc < code.size) : Goes 1 (SW code text s pc pos hd o fr wt none) (SW code text s (pc + 1 + j) pos hd o fr wt none) :=
  g_exec hpc fun seen => by
    unfold M.exec
    simp only [SW, M.word, Nat.add_zero, h0, h1, show ops[15]? = some Op.JUMP from rfl]
    exact ⟨_, rfl⟩
theorem g_succ (h0 : code.getD pc 0 = 1) (hpc : pc < code.size) : Goes 1 (SW code text s pc pos hd o fr wt none) (SW code text s pc pos pos o fr wt (some true)) :=
  g_exec hpc fun seen => by
    unfold M.exec
    simp only [SW, M.word, Nat.add_zero, h0, show ops[1]? = some Op.SUCCESS from rfl, Bool.false_and, Bool.or_self, Bool.and_false, Bool.false_eq_true, if_false]
    exact ⟨_, rfl⟩
theorem isAt_one (m : M) : m.isAt 1 = .ok (m.pos == 0 || m.text.getD (m.pos - 1) 0 == 10) := rfl
theorem g_bol (h0 : code.getD pc 0 = 6) (h1 : code.getD (pc + 1) 0 = 1) (hpc : pc < code.size) (hb : pos = 0 ∨ text.getD (pos - 1) 0 = 10) : Goes 1 (SW code text s pc pos hd o fr wt none) (SW code text s (pc + 2) pos hd o fr wt none) :=
  g_exec hpc fun seen => by
    have hb' : (pos == 0 || text.getD (pos - 1) 0 == 10) = true := by simpa using hb
    unfold M.exec
    simp only [SW, M.word, Nat.add_zero, h0, h1, show ops[6]? = some Op.AT from rfl, isAt_one, hb', if_true]
    exact ⟨_, rfl⟩
theorem g_bol_no (h0 : code.getD pc 0 = 6) (h1 : code.getD (pc + 1) 0 = 1) (hpc : pc < code.size) (hb : ¬ (pos = 0 ∨ text.getD (pos - 1) 0 = 10)) : Goes 1 (SW code text s pc pos hd o fr wt none) (SW code text s pc pos hd o fr wt (some false)) :=
  g_exec hpc fun seen => by
    have hb' : (pos == 0 || text.getD (pos - 1) 0 == 10) = false := by
      cases q : (pos == 0 || text.getD (pos - 1) 0 == 10) with
      | false => rfl
      | true => exact absurd (by simpa using q) hb
    unfold M.exec
    simp only [SW, M.word, Nat.add_zero, h0, h1, show ops[6]? = some Op.AT from rfl, isAt_one, hb', Bool.false_eq_true, if_false]
    exact ⟨_, rfl⟩
noncomputable def fB (p q : Nat) (o : Bool) : Sre.Frame := { wait := .nextBranch, pc := p, pos := q, outermost := o }
noncomputable def fS (p q : Nat) (o : Bool) : Sre.Frame := { wait := .nextStart, pc := p, pos := q, outermost := o }
noncomputable def fL (p q : Nat) (o : Bool) : Sre.Frame := { wait := .lookNot, pc := p, pos := q, outermost := o }
theorem g_branch (h0 : code.getD pc 0 = 7) (h1 : code.getD (pc + 1) 0 ≠ 0) (hpc : pc < code.size) (hw : wt < 100) : Goes 1 (SW code text s pc pos hd o fr wt none) (SW code text s (pc + 2) pos pos o (fB (pc + 1) pos o :: fr) (wt + 1) none) :=
  g_exec hpc fun seen => by
    unfold M.exec
    simp only [SW, M.word, Nat.add_zero, h0, show ops[7]? = some Op.BRANCH from rfl, M.alternative, M.keep, M.attempt]
    rw [if_neg (by simpa using h1)]
    rw [if_neg (by simp [M.frame]; exact Nat.le_of_lt (Nat.lt_of_lt_of_le (by assumption) (by decide)))]
    exact ⟨_, rfl⟩
theorem g_yesB {p q : Nat} {o' : Bool} {pos' : Nat} : Goes 1 (SW code text s pc pos' hd o' (fB p q o :: fr) (wt + 1) (some true)) (SW code text s p q hd o fr wt (some true)) :=
  Goes.one (fun _ => rfl) fun seen => ⟨_, rfl⟩
theorem g_yesS {p q : Nat} {o' : Bool} {pos' : Nat} : Goes 1 (SW code text s pc pos' hd o' (fS p q o :: fr) (wt + 1) (some true)) (SW code text s p q hd o fr wt (some true)) :=
  Goes.one (fun _ => rfl) fun seen => ⟨_, rfl⟩
theorem g_noB {p q n : Nat} {o' : Bool} {pos' : Nat} (h0 : p + code.getD p 0 = n) (h1 : code.getD n 0 ≠ 0) (hw : wt < 100) : Goes 1 (SW code text s pc pos' hd o' (fB p q o :: fr) (wt + 1) (some false)) (SW code text s (n + 1) q q o (fB n q o :: fr) (wt + 1) none) :=
  Goes.one (fun _ => rfl) fun seen => by
    refine ⟨seen, ?_⟩
    show M.alternative (SW code text s p q hd o fr wt none seen) (p + code.getD p 0) {} = _
    rw [h0]
    unfold M.alternative
    rw [if_neg (by simpa [SW] using h1)]
    unfold M.attempt
    rw [if_neg (by simp [SW, M.frame]; exact Nat.le_of_lt (Nat.lt_of_lt_of_le (by assumption) (by decide)))]
    rfl
theorem g_look (h0 : code.getD pc 0 = 5) (h2 : code.getD (pc + 2) 0 = 0) (hpc : pc < code.size) (hw : wt < 100) : Goes 1 (SW code text s pc pos hd o fr wt none) (SW code text s (pc + 3) pos pos false (fL pc pos o :: fr) (wt + 1) none) :=
  g_exec hpc fun seen => by
    unfold M.exec
    simp only [SW, M.word, Nat.add_zero, h0, h2, show ops[5]? = some Op.ASSERT_NOT from rfl, Nat.not_lt_zero, if_false, M.attempt]
    rw [if_neg (by simp [M.frame, M.keep]; exact Nat.le_of_lt (Nat.lt_of_lt_of_le (by assumption) (by decide)))]
    exact ⟨_, rfl⟩
theorem g_lookNo {p q j : Nat} {o' : Bool} {pos' : Nat} (h1 : code.getD (p + 1) 0 = j) : Goes 1 (SW code text s pc pos' hd o' (fL p q o :: fr) (wt + 1) (some false)) (SW code text s (p + 1 + j) q hd o fr wt none) :=
  Goes.one (fun _ => rfl) fun seen => ⟨seen, by subst h1; rfl⟩
theorem g_fin {p q : Nat} {b : Bool} : ∀ seen, ∃ seen', M.runFor 1 (SW code text s p q hd o [] wt (some b) seen) = { SW code text s p q hd o [] wt (some b) seen' with outcome := some (if b then .matched else .failed) } := fun seen => ⟨seen, by cases b <;> rfl⟩
end
end Mine

namespace Mine
open PySem PySem.Sre
noncomputable def code1 : Array Nat := #[14, 4, 0, 1, 1, 6, 1, 16, 46, 1]
noncomputable def code2 : Array Nat := #[14, 9, 4, 1, 2, 16, 10, 16, 13, 0, 7, 7, 16, 13, 16, 10, 15, 18, 5, 16, 10, 15, 13, 11, 16, 13, 5, 5, 0, 16, 10, 1, 15, 2, 0, 1]
noncomputable def Ends (m : M) (r : Option (Nat × Nat)) (b : Nat) : Prop := ∃ n, n ≤ b ∧ match r with
  | some (x, y) => (M.runFor n m).outcome = some .matched ∧ (M.runFor n m).start = x ∧ (M.runFor n m).handed = y
  | none => (M.runFor n m).outcome = some .failed
theorem Ends.after {m m' : M} {r : Option (Nat × Nat)} {a b c : Nat} (e : M.runFor a m = m') (h : Ends m' r b) (hc : a + b ≤ c) : Ends m r c := by
  obtain ⟨n, hn, q⟩ := h
  refine ⟨a + n, by lia, ?_⟩
  rw [runFor_add, e]; exact q
theorem Goes.ends {f g : Seen → M} {r : Option (Nat × Nat)} {a b c : Nat} (e : Goes a f g) (h : ∀ seen, Ends (g seen) r b) (hc : a + b ≤ c) (seen : Seen) : Ends (f seen) r c := by
  obtain ⟨s1, e1⟩ := e seen
  exact Ends.after e1 (h s1) hc
section
variable {code text : Array Nat} {s pc pos hd : Nat} {o : Bool} {wt : Nat}
theorem ends_yes (seen : Seen) : Ends (SW code text s pc pos hd o [] wt (some true) seen) (some (s, hd)) 1 := by
  obtain ⟨s1, e1⟩ := g_fin (code := code) (text := text) (s := s) (p := pc) (q := pos) (hd := hd) (o := o) (wt := wt) (b := true) seen
  exact ⟨1, Nat.le_refl _, by rw [e1]; exact ⟨rfl, rfl, rfl⟩⟩
theorem ends_no (seen : Seen) : Ends (SW code text s pc pos hd o [] wt (some false) seen) none 1 := by
  obtain ⟨s1, e1⟩ := g_fin (code := code) (text := text) (s := s) (p := pc) (q := pos) (hd := hd) (o := o) (wt := wt) (b := false) seen
  exact ⟨1, Nat.le_refl _, by rw [e1]; rfl⟩
theorem noS_go1 {p q : Nat} {o' : Bool} (h : q < text.size) : Goes 1 (SW code1 text s pc pos hd o [fS p q o'] 1 (some false)) (SW code1 text (q + 1) p (q + 1) (q + 1) false [fS p (q + 1) false] 1 none) :=
  Goes.one (fun _ => rfl) fun seen => ⟨seen, by
    show (if q < text.size then _ else _) = _
    rw [if_pos h]; rfl⟩
theorem noS_end {p q : Nat} {o' : Bool} (h : ¬ q < text.size) : Goes 1 (SW code text s pc pos hd o [fS p q o'] 1 (some false)) (SW code text s p q hd o' [] 0 (some false)) :=
  Goes.one (fun _ => rfl) fun seen => ⟨seen, by
    show (if q < text.size then _ else _) = _
    rw [if_neg h]; rfl⟩
end
noncomputable def find1 (text : Array Nat) : Nat → Nat → Option (Nat × Nat)
  | 0, _ => none
  | k + 1, s => if (s = 0 ∨ text.getD (s - 1) 0 = 10) ∧ text.getD s 0 = 46 then some (s, s + 1) else find1 text k (s + 1)
theorem search1 (text : Array Nat) : ∀ k s, s + k = text.size → ∀ o seen, Ends (SW code1 text s 5 s s o [fS 5 s o] 1 none seen) (find1 text k s) (5 * k + 5)
  | 0, s, hk, o, seen => by
    obtain rfl : s = text.size := by lia
    have e : ¬ text.size < text.size := by lia
    by_cases hb : text.size = 0 ∨ text.getD (text.size - 1) 0 = 10
    · exact (((g_bol (pc := 5) rfl rfl (by decide) hb).trans (g_lit_no (c := 46) rfl rfl (by decide) (fun z => e z.1))).trans (noS_end e)).ends ends_no (by exact Nat.le_add_left _ _) seen
    · exact ((g_bol_no (pc := 5) rfl rfl (by decide) hb).trans (noS_end e)).ends ends_no (by exact Nat.le_add_left _ _) seen
  | k + 1, s, hk, o, seen => by
    have hs : s < text.size := by lia
    unfold find1
    by_cases hb : s = 0 ∨ text.getD (s - 1) 0 = 10
    · by_cases hc : text.getD s 0 = 46
      · rw [if_pos ⟨hb, hc⟩]
        exact ((((g_bol (pc := 5) rfl rfl (by decide) hb).trans (g_lit (c := 46) rfl rfl (by decide) hs hc)).trans (g_succ rfl (by decide))).trans g_yesS).ends ends_yes (by exact Nat.le_add_left _ _) seen
      · rw [if_neg (fun z => hc z.2)]
        exact (((g_bol (pc := 5) rfl rfl (by decide) hb).trans (g_lit_no (c := 46) rfl rfl (by decide) (fun z => hc z.2))).trans (noS_go1 hs)).ends (search1 text k (s + 1) (by lia) false) (by lia) seen
    · rw [if_neg (fun z => hb z.1)]
      exact ((g_bol_no (pc := 5) rfl rfl (by decide) hb).trans (noS_go1 hs)).ends (search1 text k (s + 1) (by lia) false) (by lia) seen
theorem forSearch1 (text : Array Nat) {s : Nat} (hs : s ≤ text.size) : Ends (forSearch code1 text 0 s text.size false) (find1 text (text.size - s) s) (5 * text.size + 10) := by
  unfold forSearch
  have hh : header code1 = (1, 5) := rfl
  by_cases h : s = text.size
  · subst h
    rw [if_pos (by rw [hh]; simp), Nat.sub_self]
    exact ⟨1, by exact Nat.le_add_left _ _, rfl⟩
  · rw [if_neg (by rw [hh]; simp; lia)]
    obtain ⟨n, hn, q⟩ := search1 text (text.size - s) s (by lia) true (({} : Seen).add 14)
    exact ⟨n, by lia, q⟩
noncomputable def find2 (text : Array Nat) : Nat → Nat → Option (Nat × Nat)
  | 0, _ => none
  | k + 1, s => if text.getD s 0 = 13 ∨ text.getD s 0 = 10 then some (s, if text.getD s 0 = 13 ∧ text.getD (s + 1) 0 = 10 then s + 2 else s + 1) else find2 text k (s + 1)
theorem inSet2 (c : Nat) (seen : Seen) : ∃ seen', inSet code2 c code2.size 5 true seen = .ok (decide (c = 13 ∨ c = 10), seen') := by
  have e : inSet code2 c code2.size 5 true seen = if (c == 10) = true then .ok (true, seen.add 16) else if (c == 13) = true then .ok (true, (seen.add 16).add 16) else .ok (false, ((seen.add 16).add 16).add 0) := rfl
  rw [e]
  by_cases h1 : c = 10
  · subst h1; exact ⟨_, rfl⟩
  · by_cases h2 : c = 13
    · subst h2; exact ⟨_, rfl⟩
    · rw [if_neg (by simpa using h1), if_neg (by simpa using h2), decide_eq_false (by lia)]; exact ⟨_, rfl⟩
theorem at2 (text : Array Nat) (s : Nat) (hs : s < text.size) (hc : text.getD s 0 = 13 ∨ text.getD s 0 = 10) (o : Bool) (seen : Seen) :
    Ends (SW code2 text s 10 s s o [fS 10 s o] 1 none seen) (some (s, if text.getD s 0 = 13 ∧ text.getD (s + 1) 0 = 10 then s + 2 else s + 1)) 20 := by
  by_cases h1 : text.getD s 0 = 13
  · by_cases h2 : text.getD (s + 1) 0 = 10
    · rw [if_pos ⟨h1, h2⟩]
      have hs1 : s + 1 < text.size := by
        rcases Nat.lt_or_ge (s + 1) text.size with h | h
        · exact h
        · rw [Array.getD_eq_getD_getElem?, Array.getElem?_eq_none h] at h2; cases h2
      exact (((((((g_branch (pc := 10) rfl (by decide) (by decide) (by decide)).trans (g_lit (pc := 12) (c := 13) rfl rfl (by decide) hs h1)).trans (g_lit (pc := 14) (c := 10) rfl rfl (by decide) hs1 h2)).trans (g_jump (pc := 16) rfl rfl (by decide))).trans
        (g_succ (pc := 35) rfl (by decide))).trans g_yesB).trans g_yesS).ends ends_yes (by exact Nat.le_add_left _ _) seen
    · rw [if_neg (fun z => h2 z.2)]
      exact ((((((((((((((g_branch (pc := 10) rfl (by decide) (by decide) (by decide)).trans (g_lit (pc := 12) (c := 13) rfl rfl (by decide) hs h1)).trans (g_lit_no (pc := 14) (c := 10) rfl rfl (by decide) (fun z => h2 z.2))).trans
        (g_noB (n := 18) rfl (by decide) (by decide))).trans (g_lit_no (pc := 19) (c := 10) rfl rfl (by decide) (fun z => by rw [h1] at z; exact absurd z.2 (by decide)))).trans (g_noB (n := 23) rfl (by decide) (by decide))).trans
        (g_lit (pc := 24) (c := 13) rfl rfl (by decide) hs h1)).trans (g_look (pc := 26) rfl rfl (by decide) (by decide))).trans (g_lit_no (pc := 29) (c := 10) rfl rfl (by decide) (fun z => h2 z.2))).trans (g_lookNo (p := 26) rfl)).trans
        (g_jump (pc := 32) rfl rfl (by decide))).trans (g_succ (pc := 35) rfl (by decide))).trans g_yesB).trans g_yesS).ends ends_yes (by exact Nat.le_add_left _ _) seen
  · have h2 : text.getD s 0 = 10 := by lia
    rw [if_neg (fun z => h1 z.1)]
    exact ((((((((g_branch (pc := 10) rfl (by decide) (by decide) (by decide)).trans (g_lit_no (pc := 12) (c := 13) rfl rfl (by decide) (fun z => h1 z.2))).trans (g_noB (n := 18) rfl (by decide) (by decide))).trans
      (g_lit (pc := 19) (c := 10) rfl rfl (by decide) hs h2)).trans (g_jump (pc := 21) rfl rfl (by decide))).trans (g_succ (pc := 35) rfl (by decide))).trans g_yesB).trans g_yesS).ends ends_yes (by exact Nat.le_add_left _ _) seen
theorem admitted2 (text : Array Nat) (m : M) (hm : m.code = code2) (ht : m.text = text) (hl : m.lim = text.size) : ∀ k s, s + k = text.size → ∀ seen, ∃ seen', M.admitted m (k + 1) s seen = .ok ((find2 text k s).map (·.1), seen')
  | 0, s, hk, seen => by
    refine ⟨seen, ?_⟩
    show (if s ≥ m.lim then _ else _) = _
    rw [if_pos (by lia)]; rfl
  | k + 1, s, hk, seen => by
    obtain ⟨s1, e1⟩ := inSet2 (text.getD s 0) seen
    have e : M.admitted m (k + 1 + 1) s seen = match inSet code2 (text.getD s 0) code2.size 5 true seen with
        | .ok (true, seen) => .ok (some s, seen)
        | .ok (false, seen) => M.admitted m (k + 1) (s + 1) seen
        | .error why => .error why := by
      show (if s ≥ m.lim then _ else _) = _
      rw [if_neg (by lia), hm, ht]
      rfl
    rw [e, e1]
    unfold find2
    by_cases h : text.getD s 0 = 13 ∨ text.getD s 0 = 10
    · rw [decide_eq_true h, if_pos h]; exact ⟨_, rfl⟩
    · rw [decide_eq_false h, if_neg h]
      exact admitted2 text m hm ht hl k (s + 1) (by lia) s1
theorem find2_some {text : Array Nat} : ∀ {k s x y}, s + k = text.size → find2 text k s = some (x, y) → x < text.size ∧ (text.getD x 0 = 13 ∨ text.getD x 0 = 10) ∧ y = if text.getD x 0 = 13 ∧ text.getD (x + 1) 0 = 10 then x + 2 else x + 1
  | 0, _, _, _, _, h => by cases h
  | k + 1, s, x, y, hk, h => by
    unfold find2 at h
    split at h
    · rename_i q
      have h := Option.some.inj h
      obtain rfl : s = x := congrArg Prod.fst h
      exact ⟨by lia, q, (congrArg Prod.snd h).symm⟩
    · exact find2_some (by lia) h
theorem forSearch2 (text : Array Nat) {s : Nat} (hs : s ≤ text.size) : Ends (forSearch code2 text 0 s text.size false) (find2 text (text.size - s) s) (5 * text.size + 50) := by
  unfold forSearch
  have hh : header code2 = (1, 10) := rfl
  by_cases h : s = text.size
  · subst h
    rw [if_pos (by rw [hh]; simp), Nat.sub_self]
    exact ⟨1, by exact Nat.le_add_left _ _, rfl⟩
  · rw [if_neg (by rw [hh]; simp; lia)]
    show Ends (M.attemptFrom { code := code2, text, lim := text.size, start := s, lastStart := text.size, pc := 10, pos := s, handed := s, marks := #[], seen := ({} : Seen).add 14 } s true) _ _
    generalize hm : ({ code := code2, text, lim := text.size, start := s, lastStart := text.size, pc := 10, pos := s, handed := s, marks := #[], seen := ({} : Seen).add 14 } : M) = m
    obtain ⟨s1, e1⟩ := admitted2 text m (by subst hm; rfl) (by subst hm; rfl) (by subst hm; rfl) (text.size - s) s (by lia) m.seen
    have hf : m.hasFirstSet = true := by subst hm; rfl
    have hl : m.lim + 1 - s = text.size - s + 1 := by subst hm; show text.size + 1 - s = _; lia
    unfold M.attemptFrom
    rw [hf, hl, e1]
    cases q : find2 text (text.size - s) s with
    | none => subst hm; exact ⟨1, by exact Nat.le_add_left _ _, rfl⟩
    | some r =>
      obtain ⟨x, y⟩ := r
      obtain ⟨a, b, c⟩ := find2_some (by lia) q
      obtain ⟨n, hn, z⟩ := at2 text x a b true s1
      subst hm
      rw [← c] at z
      exact ⟨n, by lia, z⟩
end Mine

namespace Mine
open PySem PySem.W PyProof.Rows

noncomputable def Found (r : Option (Nat × Nat)) (m : Sre.M) : Prop := match r with
  | some (x, y) => m.outcome = some .matched ∧ m.start = x ∧ m.handed = y
  | none => m.outcome = some .failed
theorem Found.done {r : Option (Nat × Nat)} {m : Sre.M} (f : Found r m) : m.outcome.isSome = true := by
  unfold Found at f
  cases r with
  | none => rw [f]; rfl
  | some p => obtain ⟨x, y⟩ := p; rw [f.1]; rfl
theorem runFor_done {m : Sre.M} (h : m.outcome.isSome = true) : ∀ n, Sre.M.runFor n m = m
  | 0 => rfl
  | n + 1 => by
    show (if m.outcome.isSome then m else Sre.M.runFor n m.step) = m
    rw [if_pos h]
theorem ends_turn {m : Sre.M} {r : Option (Nat × Nat)} {b : Nat} (e : Ends m r b) : Found r (Sre.M.runFor 4 m) ∨ ((Sre.M.runFor 4 m).outcome.isSome = false ∧ 4 < b ∧ Ends (Sre.M.runFor 4 m) r (b - 4)) := by
  obtain ⟨n, hn, f⟩ := e
  have f : Found r (Sre.M.runFor n m) := f
  by_cases h4 : n ≤ 4
  · refine .inl ?_
    have : Sre.M.runFor 4 m = Sre.M.runFor n m := by
      rw [show 4 = n + (4 - n) by lia, runFor_add, runFor_done f.done]
    rw [this]; exact f
  · have e2 : Sre.M.runFor n m = Sre.M.runFor (n - 4) (Sre.M.runFor 4 m) := by rw [← runFor_add]; congr 1; lia
    cases q : (Sre.M.runFor 4 m).outcome.isSome with
    | true => rw [runFor_done q] at e2; exact .inl (e2 ▸ f)
    | false => exact .inr ⟨rfl, by lia, n - 4, by lia, e2 ▸ f⟩
section
variable {C : Cx} {A : Around} {h h₀ h' : Heap} {env : Env} {l l' : List (Str × Option PV)} {cs cs' : List (Addr × AO)} {K : Frag}
theorem w_drive {r : Option (Nat × Nat)} {Q : Sre.M → Heap → Prop} : ∀ (turns : Nat) (m : Sre.M) (b : Nat), Ends m r b → b < 4 * turns → (∀ m', Found r m' → Q m' h) → Wp C A (Builtin.Re.reDrive turns m) Q h
  | 0, _, _, _, hb, _ => absurd hb (by lia)
  | turns + 1, m, b, e, hb, k => by
    show Wp C A (if (Sre.M.runFor 4 m).outcome.isSome then Pure.pure (Sre.M.runFor 4 m) else (do PySem.rule "sre.turn"; Builtin.Re.reDrive turns (Sre.M.runFor 4 m))) Q h
    rcases ends_turn e with f | ⟨q, h4, e'⟩
    · rw [if_pos f.done]; exact Wp.pure (k _ f)
    · rw [if_neg (by rw [q]; simp)]
      exact Wp.bind (Wp.rule (w_drive turns _ _ e' (by lia) k))
theorem w_rules {α : Type} {c : α → Bool} {f : α → String} {Q : PUnit → Heap → Prop} (k : Q ⟨⟩ h) : ∀ xs : List α, Wp C A (forIn xs PUnit.unit fun x _ => if c x = true then (do PySem.rule (f x); Pure.pure (ForInStep.yield PUnit.unit)) else Pure.pure (ForInStep.yield PUnit.unit)) Q h
  | [] => by rw [List.forIn_nil]; exact Wp.pure k
  | x :: xs => by
    rw [List.forIn_cons]
    refine Wp.bind ?_
    have := w_rules (c := c) (f := f) k xs
    split
    · exact Wp.bind (Wp.rule (Wp.pure this))
    · exact Wp.pure this
theorem w_runEnd {r : Option (Nat × Nat)} {m : Sre.M} {b : Nat} {Q : Option Sre.M → Heap → Prop} (e : Ends m r b) (hb : b < 2 ^ 64) (k : match r with | some (x, y) => ∀ m' : Sre.M, m'.start = x → m'.handed = y → Q (some m') h | none => Q none h) : Wp C A (Builtin.Re.reRunToEnd m) Q h := by
  unfold Builtin.Re.reRunToEnd
  refine Wp.bind (w_drive (2 ^ 64) m b e (by exact Nat.lt_of_lt_of_le (by assumption) (by decide)) fun m' f => ?_)
  refine Wp.bind (w_rules ?_ _)
  cases r with
  | none =>
    have f : m'.outcome = some .failed := f
    rw [f]; exact Wp.pure k
  | some p =>
    obtain ⟨x, y⟩ := p
    obtain ⟨f, f1, f2⟩ := f
    rw [f]; exact Wp.pure (k m' f1 f2)

structure PatAt (h : Heap) (p : Addr) (code : Array Nat) : Prop where
  out : ∃ x1 x2 q ws, h.get? p = some ⟨.type "re.Pattern", none, .fields #[x1, x2, .int 0 0, .none, .none, .ref q, .int 0 0], #[]⟩ ∧ h.get? q = some ⟨.type "tuple", none, .seq ws 0, #[]⟩ ∧ (ws.map Builtin.Re.reRawOf).map (·.toNat) = code
theorem PatAt.keeps {p : Addr} {code : Array Nat} (k : Keeps h h') (x : PatAt h p code) : PatAt h' p code := by
  obtain ⟨x1, x2, q, ws, a, b, c⟩ := x.out
  exact ⟨x1, x2, q, ws, k _ _ a, k _ _ b, c⟩
theorem w_target {p : Addr} {code : Array Nat} {s : Str} {t : Tok} {Q : Builtin.Re.ReTarget → Heap → Prop} (x : PatAt h p code)
    (k : Q { pattern := .ref p, string := .str s t, code := code, text := s.cps, kind := 0, groups := 0, pos := 0, lim := s.cps.size } h) : Wp C A (Builtin.Re.reWholeTarget (.ref p) (.str s t)) Q h := by
  obtain ⟨x1, x2, q, ws, a, b, rfl⟩ := x.out
  unfold Builtin.Re.reWholeTarget
  refine Wp.bind (Q := Q) ?_
  show Wp C A (fieldsOf (.ref p)) _ h
  unfold fieldsOf
  refine Wp.bind (Wp.load a (Wp.pure ?_))
  dsimp only
  refine Wp.bind (Wp.of_eq (a := (s.cps, 0)) rfl ?_)
  dsimp only
  rw [if_neg (by exact Bool.false_ne_true), if_neg (by exact Bool.false_ne_true)]
  refine Wp.bind (Wp.of_eq (a := ()) rfl ?_)
  refine Wp.bind ?_
  unfold Builtin.Re.reRawItems
  refine Wp.bind ?_
  show Wp C A (seqItems? (.ref q)) _ h
  unfold seqItems?
  refine Wp.bind (Wp.load b (Wp.pure (Wp.pure (Wp.pure ?_))))
  exact k
theorem w_updSeq {a : Addr} {ps ps' : List PV} {f : Array Value → Array Value} {Q : Unit → Heap → Prop} (Z : St env h₀ l cs h) (c : CAt cs a (.list ps)) (c' : CSet a (.list ps') cs cs')
    (hf : ∀ vs : Array Value, vs.toList.map pv = ps → (f vs).toList.map pv = ps') (hz : ps.length ≤ sizeLine) (hz' : ps'.length ≤ sizeLine + 1) (k : ∀ h', St env h₀ l cs' h' → Q () h') : Wp C A (updateSeq a f) Q h := fun t => by
  obtain ⟨vs, n, eo, ev⟩ := own_list (Z.get c)
  have hsz : vs.size = ps.length := by rw [← ev, List.length_map]; simp
  have hsz' : (f vs).size = ps'.length := by rw [← hf vs ev, List.length_map]; simp
  refine wpAny_updateSeq eo rfl ⟨_, _, rfl, k _ (Z.upd c' (Heap.SameBut.update ..) ⟨_, Heap.get?_update_self _ eo rfl, f vs, _, rfl, hf vs ev⟩)⟩ (by rw [hsz]; exact hz) (by rw [hsz']; exact hz')
noncomputable def subs (find : Nat → Option (Nat × Nat)) (text : Array Nat) (rep : Str) : Nat → Nat → List Str
  | 0, _ => []
  | k + 1, s => match find s with
    | none => if s < text.size then [⟨text.extract s text.size⟩] else []
    | some (x, y) => (if s < x then [⟨text.extract s x⟩] else []) ++ rep :: subs find text rep k y
theorem subs_succ (find : Nat → Option (Nat × Nat)) (text : Array Nat) (rep : Str) (k s : Nat) : subs find text rep (k + 1) s = match find s with
    | none => if s < text.size then [⟨text.extract s text.size⟩] else []
    | some (x, y) => (if s < x then [⟨text.extract s x⟩] else []) ++ rep :: subs find text rep k y := rfl
theorem cp_builtin {id : String} {args : Args} {b : Builtin} {Q : Flow → Heap → Prop} (hp : plainId id = true) (hb : entryFor table id = some b)
    (x : Wp C A.in1 (b args) (fun fin h' => match fin with | .done f => Q f h' | .again c => c.quiet = true ∧ Cp C A c Q h') h) : Cp C A (.builtin id args) Q h := fun t => by
  refine codeAny_builtin hb ?_
  rw [Around.under_plainId hp args]
  refine x.seq t fun fin h' t' q => ?_
  cases fin with
  | done f => exact ⟨_, _, _, rfl, rfl, q⟩
  | again c => exact ⟨q.1, q.2 t'⟩
theorem cp_call_slot {T id : String} {name : Str} {self : Value} {rest : List Value} {b : Builtin} {Q : Flow → Heap → Prop} (sl : Slot T name id) (hT : ∀ t, (C.st h t).TypeIs self T) (hb : entryFor table id = some b) (ha : argsOk id ⟨self :: rest, []⟩)
    (x : Wp C A.in1 (b ⟨self :: rest, []⟩) (fun fin h' => match fin with | .done f => Q f h' | .again c => c.quiet = true ∧ Cp C A c Q h') h) : Cp C A (.call (.builtin id) ⟨self :: rest, []⟩) Q h := fun t => by
  refine codeAny_call_builtin sl.plain hb (sl.check _ _ _ _ _ _ _ _ (hT t) ha (x.seq t fun fin h' t' q => ?_))
  cases fin with
  | done f => exact ⟨_, _, _, rfl, rfl, q⟩
  | again c => exact ⟨q.1, q.2 t'⟩
theorem plain_subloop : plainId "re.Pattern.sub.loop" = true := by decide +kernel
theorem entry_subloop : entryFor table "re.Pattern.sub.loop" = some Builtin.«re.Pattern.sub.loop» := entryFor_of_tree (by kernel_rfl)
theorem entry_sub : entryFor table "re.Pattern.sub" = some Builtin.«re.Pattern.sub» := entryFor_of_tree (by kernel_rfl)
theorem slot_sub : Slot "re.Pattern" (Str.ofString "sub") "re.Pattern.sub" :=
  .of (owner := "re.Pattern") (n := "sub") (by rw [typeLookup_type, builtinLookup_eq_fast]; kernel_rfl) (by decide +kernel) (by decide +kernel) (by decide +kernel)
    (by first | exact .inl (by decide +kernel) | exact .inr (by decide +kernel)) (by rw [isSubtype_type]; kernel_rfl)
theorem type_sub : typeOf (.builtin "re.Pattern.sub") = Pure.pure (.type "method_descriptor") := by show builtinType _ = _; rw [builtinType_eq_fast]; kernel_rfl
theorem args_sub (a b c : Value) : argsOk "re.Pattern.sub" ⟨[a, b, c], []⟩ := by unfold argsOk; kernel_rfl
theorem plainAttrs_pat : PlainAttrs "re.Pattern" :=
  ⟨⟨"object.__getattribute__", by rw [typeLookup_type, builtinLookup_eq_fast]; kernel_rfl, by decide +kernel⟩, by rw [typeLookup_type, builtinLookup_eq_fast]; kernel_rfl⟩

theorem glued_empty : ∀ ts : List Str, (Builtin.Str.glued Str.empty ts).cps = ts.foldl (fun acc p => acc ++ p.cps) #[] := fun ts => by
  unfold Builtin.Str.glued
  cases ts with
  | nil => rfl
  | cons x ts =>
    have : ∀ (ts : List Str) (acc : Array Nat), ts.foldl (fun acc p => acc ++ Str.empty.cps ++ p.cps) acc = ts.foldl (fun acc p => acc ++ p.cps) acc := by
      intro ts
      induction ts with
      | nil => intro acc; rfl
      | cons y ts ih => intro acc; rw [List.foldl_cons, List.foldl_cons, ih]; congr 1
    show ts.foldl (fun acc p => acc ++ Str.empty.cps ++ p.cps) x.cps = _
    rw [this]; simp
noncomputable def catStr (ts : List Str) : List Nat := ts.flatMap fun p => p.cps.toList
theorem foldl_cat : ∀ (ts : List Str) (acc : Array Nat), (ts.foldl (fun acc p => acc ++ p.cps) acc).toList = acc.toList ++ catStr ts
  | [], acc => by simp [catStr]
  | x :: ts, acc => by rw [List.foldl_cons, foldl_cat ts]; simp [catStr]
theorem strs_of : ∀ {vs : List Value} {ts : List Str}, vs.map pv = ts.map PV.str → ∃ l : List (Str × Tok), vs = strValues l ∧ l.map (·.1) = ts
  | [], [], _ => ⟨[], rfl, rfl⟩
  | v :: vs, x :: ts, e => by
    simp only [List.map_cons, List.cons.injEq] at e
    obtain ⟨t, rfl⟩ := pv_str e.1
    obtain ⟨l, rfl, h2⟩ := strs_of e.2
    exact ⟨(x, t) :: l, rfl, by simp [h2]⟩
  | [], _ :: _, e => by simp at e
  | _ :: _, [], e => by simp at e
theorem fold_len0 (ts : List Str) : ∀ n : Nat, ts.foldl (fun a p => a + p.length + Str.empty.length) n = n + (catStr ts).length := by
  induction ts with
  | nil => intro n; simp [catStr]
  | cons x ts ih =>
    intro n
    rw [List.foldl_cons, ih]
    have e : Str.empty.length = 0 := rfl
    have : (catStr (x :: ts)).length = x.length + (catStr ts).length := by simp [catStr, Str.length]
    lia
theorem w_join {a : Addr} {ts : List Str} {t : Tok} {Q : Value → Heap → Prop} (o : Own h a (.list (ts.map PV.str))) (hz : (catStr ts).length ≤ sizeLine) (k : ∀ v, pv v = .str ⟨(catStr ts).toArray⟩ → Q v h) : Wp C A (call (.builtin "str.join") [.str Str.empty t, .ref a]) Q h := fun tk => by
  obtain ⟨vs, n, eo, ev⟩ := own_list o
  obtain ⟨l, e1, e2⟩ := strs_of ev
  have hl : (C.st h tk).heap.IsList a (strValues l).toArray := ⟨_, eo, rfl, n, by rw [← e1]⟩
  refine SC.join hl e2 ?_ fun t' tk' => ⟨_, _, rfl, k _ ?_⟩
  · unfold JoinOk
    rw [List.foldl_toArray, fold_len0]
    simp only [Builtin.Str.tooLong, Bool.not_eq_true', decide_eq_false_iff_not]; lia
  · show PV.str _ = _
    congr 1
    have : (Txt.join Str.empty ts).cps = (catStr ts).toArray := by
      show (Builtin.Str.glued Str.empty ts).cps = _
      rw [glued_empty]
      apply Array.toList_inj.mp
      rw [foldl_cat]; simp
    show Txt.join Str.empty ts = _
    cases q : Txt.join Str.empty ts with | mk cps => rw [q] at this; exact congrArg Str.mk this

theorem cp_subloop {p L : Addr} {code : Array Nat} {s rep : Str} {t1 t2 : Tok} {find : Nat → Option (Nat × Nat)} {B : Nat} {Q : Flow → Heap → Prop}
    (hgt : ∀ st x y, find st = some (x, y) → st ≤ x ∧ x < y ∧ y ≤ s.cps.size) (hB : B < 2 ^ 64) (hfind : ∀ st, st ≤ s.cps.size → Ends (Sre.forSearch code s.cps 0 st s.cps.size false) (find st) B) (hsz : s.cps.size ≤ 1000000) (hlen : (catStr (subs find s.cps rep (s.cps.size + 1) 0)).length ≤ sizeLine)
    (hP : PatAt h₀ p code)
    (k : ∀ v h', St env h₀ l ((L, .list ((subs find s.cps rep (s.cps.size + 1) 0).map PV.str)) :: cs) h' → pv v = .str ⟨(catStr (subs find s.cps rep (s.cps.size + 1) 0)).toArray⟩ → Q (.ret v) h') :
    ∀ (f st n : Nat) (qs : List Str) (h : Heap), st ≤ s.cps.size → s.cps.size < st + f → qs.length ≤ 2 * st + 1 → qs ++ subs find s.cps rep f st = subs find s.cps rep (s.cps.size + 1) 0 → St env h₀ l ((L, .list (qs.map PV.str)) :: cs) h →
      Cp C A (.builtin "re.Pattern.sub.loop" ⟨[.ref p, .str s t1, .str rep t2, rawInt 0, rawInt 0, rawInt n, rawInt st, rawInt st, .bool false, .ref L, .bool false], []⟩) Q h
  | 0, st, n, qs, h, h1, h2, h3, h4, Z => absurd h2 (by lia)
  | f + 1, st, n, qs, h, h1, h2, h3, h4, Z => by
    refine cp_builtin plain_subloop entry_subloop ?_
    unfold Builtin.«re.Pattern.sub.loop»
    dsimp only [rawInt]
    refine Wp.bind (w_target (hP.keeps Z.keep) ?_)
    rw [if_pos (by rfl)]
    refine Wp.bind (Wp.of_eq (a := ()) rfl ?_)
    rw [if_neg (by exact Bool.false_ne_true)]
    refine Wp.bind ?_
    unfold Builtin.Re.reNextFound
    dsimp only
    rw [Int.toNat_natCast]
    refine w_runEnd (hfind st h1) hB ?_
    have hq3 : (qs.map PV.str).length ≤ 2 * st + 1 := by rw [List.length_map]; exact h3
    rw [subs_succ] at h4
    cases q : find st with
    | none =>
      rw [q] at h4
      dsimp only at h4 ⊢
      have fin : ∀ (h' : Heap) (ts : List Str), ts = subs find s.cps rep (s.cps.size + 1) 0 → St env h₀ l ((L, .list (ts.map PV.str)) :: cs) h' →
          Wp C A.in1 (do
            let joiner ← Builtin.Re.reSlice s.cps 0 0 0
            let text ← if ((← seqItems? (.ref L)).getD #[]).isEmpty then Pure.pure joiner
              else call (.builtin (if (0 : Nat) == 0 then "str.join" else "bytes.join")) [joiner, .ref L]
            if false = true then ret (← holding [text] do newTuple [text, ← mkInt n]) else ret text) (fun fin h' => match fin with | .done f => Q f h' | .again c => c.quiet = true ∧ Cp C A c Q h') h' := fun h' ts ets Z' => by
        subst ets
        unfold Builtin.Re.reSlice
        rw [if_pos (by rfl)]
        have e0 : (⟨s.cps.extract 0 0⟩ : Str) = Str.empty := by simp [Str.empty]
        rw [e0]
        have mk : ∀ (R : Value → Heap → Prop), (∀ t, R (.str Str.empty t) h') → Wp C A.in1 (mkStr Str.empty) R h' := fun R kk => w_mkStr (by decide) fun v hv => by
          obtain ⟨t, rfl⟩ := pv_str hv; exact kk t
        refine Wp.bind (mk _ fun t => ?_)
        obtain ⟨vs, m, eo, ev⟩ := own_list (Z'.get .here)
        refine Wp.bind ?_
        unfold seqItems?
        refine Wp.bind (Wp.load eo (Wp.pure ?_))
        dsimp only [Option.getD_some]
        have fin2 : ∀ v, pv v = .str ⟨(catStr (subs find s.cps rep (s.cps.size + 1) 0)).toArray⟩ → Wp C A.in1 (if false = true then (do ret (← holding [v] do newTuple [v, ← mkInt n])) else ret v) (fun fin h' => match fin with | .done f => Q f h' | .again c => c.quiet = true ∧ Cp C A c Q h') h' := fun v hv => by
          rw [if_neg (by exact Bool.false_ne_true)]
          exact Wp.pure (k v h' Z' hv)
        by_cases hv : vs.isEmpty = true
        · rw [if_pos hv]
          refine fin2 (.str Str.empty t) ?_
          have : subs find s.cps rep (s.cps.size + 1) 0 = [] := by
            have : vs.toList = [] := by simpa using hv
            rw [this] at ev
            exact List.map_eq_nil_iff.mp ev.symm
          rw [this]; rfl
        · rw [if_neg hv]
          exact Wp.bind (w_join (Z'.get .here) hlen fin2)
      by_cases hs : st < s.cps.size
      · rw [if_pos (by simpa using hs)] at h4
        rw [if_pos (by first | exact hs | (rw [Int.toNat_natCast]; exact hs))]
        unfold Builtin.Re.reSlice
        rw [if_pos (by rfl)]
        refine Wp.bind (w_mkStr (b := ⟨s.cps.extract st s.cps.size⟩) (by simp [Str.length, sizeLine]; lia) fun v hv => ?_)
        refine Wp.bind (w_updSeq Z .here .here (ps' := (qs ++ [(⟨s.cps.extract st s.cps.size⟩ : Str)]).map PV.str) (fun vs e => ?_) (by first | exact szm (by lia) | exact sz (by lia) | (simp [sizeLine]; lia)) (by first | exact szm (by lia) | exact sz (by assumption) | (simp [sizeLine]; lia)) fun h' Z' => ?_)
        · simp only [Array.toList_push, List.map_append, e, List.map_cons, List.map_nil, hv]
          try rw [Int.toNat_natCast]
        · exact fin h' _ h4 Z'
      · rw [if_neg (by simpa using hs)] at h4
        rw [if_neg (by first | exact hs | (rw [Int.toNat_natCast]; exact hs))]
        exact fin h _ (by rw [← h4]; simp) Z
    | some r =>
      obtain ⟨x, y⟩ := r
      obtain ⟨g1, g2, g3⟩ := hgt st x y q
      rw [q] at h4
      intro m' e1 e2
      dsimp only at h4 ⊢
      rw [e1, e2]
      have go : ∀ (h' : Heap) (ts : List Str), ts.length ≤ qs.length + 2 → ts ++ subs find s.cps rep f y = subs find s.cps rep (s.cps.size + 1) 0 → St env h₀ l ((L, .list (ts.map PV.str)) :: cs) h' →
          Cp C A (.builtin "re.Pattern.sub.loop" ⟨[.ref p, .str s t1, .str rep t2, rawInt 0, rawInt 0, rawInt ((n + 1 : Nat) : Int), rawInt (y : Nat), rawInt (y : Nat), .bool false, .ref L, .bool false], []⟩) Q h' := fun h' ts hts e Z' =>
        cp_subloop hgt hB hfind hsz hlen hP k f y (n + 1) ts h' g3 (by lia) (by lia) e Z'
      have last : ∀ (h' : Heap) (ts : List Str), ts.length ≤ qs.length + 1 → ts ++ rep :: subs find s.cps rep f y = subs find s.cps rep (s.cps.size + 1) 0 → St env h₀ l ((L, .list (ts.map PV.str)) :: cs) h' →
          Wp C A.in1 (do
            let item ← if (0 : Int) == 0 then Pure.pure (Value.str rep t2) else do
              let found ← Builtin.Re.reNewMatch (.ref p) (.str s t1) 0 0 s.cps.size m'
              holding [found] (if (0 : Int) == 1 then call (.str rep t2) [found] else do Builtin.Re.reExpand (.str rep t2) (← Builtin.Re.reFound found))
            if item != .none then updateSeq L (·.push item)
            again (.builtin "re.Pattern.sub.loop" ⟨[.ref p, .str s t1, .str rep t2, rawInt 0, rawInt 0, rawInt ((n : Int) + 1), rawInt (y : Nat), rawInt (y : Nat), .bool (y == x), .ref L, .bool false], []⟩)) (fun fin h' => match fin with | .done f => Q f h' | .again c => c.quiet = true ∧ Cp C A c Q h') h' := fun h' ts hts e Z' => by
        rw [if_pos (by rfl)]
        refine Wp.bind (Wp.pure ?_)
        dsimp only
        rw [if_pos (by rfl)]
        refine Wp.bind (w_updSeq Z' .here .here (ps' := (ts ++ [rep]).map PV.str) (fun vs e => ?_) (by first | exact szm (by lia) | exact sz (by lia) | (simp [sizeLine]; lia)) (by first | exact szm (by lia) | exact sz (by assumption) | (simp [sizeLine]; lia)) fun h'' Z'' => ?_)
        · simp only [Array.toList_push, List.map_append, e, List.map_cons, List.map_nil]; rfl
        · refine Wp.pure ⟨plainId_quiet plain_subloop _, ?_⟩
          have : (y == x) = false := by simp; lia
          rw [this]
          have e3 : (n : Int) + 1 = ((n + 1 : Nat) : Int) := by exact (Int.natCast_succ _).symm
          rw [e3]
          exact go h'' _ (by simp; assumption) (by rw [← e]; simp) Z''
      by_cases hs : st < x
      · rw [if_pos hs] at h4
        rw [if_pos (by first | exact hs | (rw [Int.toNat_natCast]; exact hs))]
        unfold Builtin.Re.reSlice
        rw [if_pos (by rfl)]
        refine Wp.bind (w_mkStr (b := ⟨s.cps.extract st x⟩) (by simp [Str.length, sizeLine]; lia) fun v hv => ?_)
        refine Wp.bind (w_updSeq Z .here .here (ps' := (qs ++ [(⟨s.cps.extract st x⟩ : Str)]).map PV.str) (fun vs e => ?_) (by first | exact szm (by lia) | exact sz (by lia) | (simp [sizeLine]; lia)) (by first | exact szm (by lia) | exact sz (by assumption) | (simp [sizeLine]; lia)) fun h' Z' => ?_)
        · simp only [Array.toList_push, List.map_append, e, List.map_cons, List.map_nil, hv]
          try rw [Int.toNat_natCast]
        · exact last h' _ (by simp) (by rw [← h4]; simp) Z'
      · rw [if_neg hs] at h4
        rw [if_neg (by first | exact hs | (rw [Int.toNat_natCast]; exact hs))]
        exact last h qs (by exact Nat.le_add_right _ _) (by rw [← h4]; simp) Z

theorem rlookup_str_call : typeLookup (.type "str") (Str.ofString "__call__") = Pure.pure none := by rw [typeLookup_type, builtinLookup_eq_fast]; kernel_rfl
theorem w_sub {p : Addr} {code : Array Nat} {s rep : Str} {t1 t2 : Tok} {find : Nat → Option (Nat × Nat)} {B : Nat} {Q : Value → Heap → Prop} (Z : St env h₀ l cs h)
    (hgt : ∀ st x y, find st = some (x, y) → st ≤ x ∧ x < y ∧ y ≤ s.cps.size) (hB : B < 2 ^ 64) (hfind : ∀ st, st ≤ s.cps.size → Ends (Sre.forSearch code s.cps 0 st s.cps.size false) (find st) B) (hsz : s.cps.size ≤ 1000000) (hlen : (catStr (subs find s.cps rep (s.cps.size + 1) 0)).length ≤ sizeLine)
    (hP : PatAt h₀ p code) (hrep : rep.cps.contains 92 = false)
    (k : ∀ v h', St env h₀ l cs h' → pv v = .str ⟨(catStr (subs find s.cps rep (s.cps.size + 1) 0)).toArray⟩ → Q v h') : Wp C A (call (.builtin "re.Pattern.sub") [.ref p, .str rep t2, .str s t1]) Q h := by
  obtain ⟨x1, x2, q, ws, e1, e2, e3⟩ := (hP.keeps Z.keep).out
  refine Wp.call (cp_call_slot slot_sub (fun t => ⟨_, e1, rfl⟩) entry_sub (args_sub _ _ _) ?_)
  unfold Builtin.«re.Pattern.sub» Builtin.Re.reSubstitute
  dsimp only
  refine Wp.bind (Wp.of_eq (a := [some (.str rep t2), some (.str s t1), none]) (by first | rfl | kernel_rfl) ?_)
  dsimp only
  refine Wp.bind (Wp.pure ?_)
  refine Wp.bind (Q := _) (show Wp C A.in1 (specialOf (.str rep t2) (Str.ofString "__call__")) _ h from fun t => wpAny_specialOf (typeIs_str _ _ _) rlookup_str_call ⟨_, _, rfl, ?_⟩)
  dsimp only [Option.isSome_none]
  rw [if_neg (by exact Bool.false_ne_true)]
  refine Wp.bind (Wp.of_eq (a := some rep) rfl ?_)
  dsimp only
  refine Wp.bind (Wp.pure ?_)
  rw [hrep]
  rw [if_neg (by exact Bool.false_ne_true), if_pos (by rfl)]
  refine Wp.bind (Wp.pure ?_)
  dsimp only
  refine Wp.bind (Wp.holding (w_target (hP.keeps Z.keep) ?_))
  rw [if_neg (by exact Bool.false_ne_true)]
  refine Wp.bind (w_newList Z (by decide) fun L h1 Z1 => ?_)
  refine Wp.pure ⟨plainId_quiet plain_subloop _, ?_⟩
  exact cp_subloop hgt hB hfind hsz hlen hP (fun v h' Z' hv => ⟨v, rfl, k v h' Z'.drop hv⟩) (s.cps.size + 1) 0 0 [] h1 (Nat.zero_le _) (by lia) (by simp) (by simp) Z1
theorem find1_gt (text : Array Nat) : ∀ k s x y, find1 text k s = some (x, y) → s ≤ x ∧ x < y ∧ y ≤ s + k
  | 0, _, _, _, h => by cases h
  | k + 1, s, x, y, h => by
    unfold find1 at h
    split at h
    · have h := Option.some.inj h
      have a : s = x := congrArg Prod.fst h
      have b : s + 1 = y := congrArg Prod.snd h
      lia
    · have := find1_gt text k (s + 1) x y h
      lia
theorem find2_gt (text : Array Nat) : ∀ k s x y, s + k = text.size → find2 text k s = some (x, y) → s ≤ x ∧ x < y ∧ y ≤ text.size
  | 0, _, _, _, _, h => by cases h
  | k + 1, s, x, y, hk, h => by
    unfold find2 at h
    split at h
    · have h := Option.some.inj h
      have a : s = x := congrArg Prod.fst h
      have b := congrArg Prod.snd h
      simp only at b
      split at b
      · rename_i q
        have : s + 1 < text.size := by
          rcases Nat.lt_or_ge (s + 1) text.size with z | z
          · exact z
          · have q2 := q.2
            rw [Array.getD_eq_getD_getElem?, Array.getElem?_eq_none z] at q2; cases q2
        lia
      · lia
    · have := find2_gt text k (s + 1) x y (by lia) h
      lia
end

noncomputable def eqL (e : PV → PV → Bool) : List PV → List PV → Bool
  | [], [] => true
  | p :: ps, q :: qs => e p q && eqL e ps qs
  | _, _ => false
noncomputable def ltL (e lt : PV → PV → Bool) : List PV → List PV → Bool
  | [], [] => false
  | [], _ :: _ => true
  | _ :: _, [] => false
  | p :: ps, q :: qs => if e p q then ltL e lt ps qs else lt p q
theorem ltL_t {e lt : PV → PV → Bool} {p q : PV} {ps qs : List PV} (h : e p q = true) : ltL e lt (p :: ps) (q :: qs) = ltL e lt ps qs := if_pos h
theorem ltL_f {e lt : PV → PV → Bool} {p q : PV} {ps qs : List PV} (h : e p q = false) : ltL e lt (p :: ps) (q :: qs) = lt p q := if_neg (by rw [h]; exact Bool.false_ne_true)
theorem eqL_t {e : PV → PV → Bool} {p q : PV} {ps qs : List PV} (h : e p q = true) : eqL e (p :: ps) (q :: qs) = eqL e ps qs := by show (e p q && _) = _; rw [h]; rfl
theorem eqL_f {e : PV → PV → Bool} {p q : PV} {ps qs : List PV} (h : e p q = false) : eqL e (p :: ps) (q :: qs) = false := by show (e p q && _) = _; rw [h]; rfl
theorem q_ret {Q : Flow → Heap → Prop} {h : Heap} {b c : Bool} (e : b = c) (k : Q (.ret (.bool b)) h) : Q (.ret (.bool c)) h := e ▸ k
theorem eqL_len {e : PV → PV → Bool} : ∀ {ps qs : List PV}, eqL e ps qs = true → ps.length = qs.length
  | [], [], _ => rfl
  | p :: ps, q :: qs, h => by
    exact congrArg Nat.succ (eqL_len ((Bool.and_eq_true _ _).mp (show (e p q && eqL e ps qs) = true from h)).2)
section
variable {C : Cx} {A : Around} {h h₀ h' : Heap} {env : Env} {l l' : List (Str × Option PV)} {cs cs' : List (Addr × AO)} {K : Frag}
noncomputable def Eqb (C : Cx) (A : Around) (h : Heap) (p q : PV) (b : Bool) : Prop := ∀ u v, pv u = p → pv v = q → ∀ Q : Bool → Heap → Prop, Q b h → Wp C A (eqBool u v) Q h
noncomputable def notFlt : PV → Bool
  | .flt _ => false
  | _ => true
theorem eqb_of {p q : PV} {b : Bool} (c : Cm C A h .Eq p q b) (hf : notFlt p = true) (hr : p = q → b = true) : Eqb C A h p q b := fun u v hu hv Q k => by
  unfold eqBool
  refine Wp.holding ?_
  have go : Wp C A (truthOfDropped (.bool b)) Q h := fun t => wpAny_truthy_bool ⟨_, _, rfl, k⟩
  have c' : Wp C A (PySem.richCompare .Eq u v >>= truthOfDropped) Q h := Wp.bind (c u v hu hv _ go)
  by_cases e : (u == v) = true
  · rw [if_pos e]
    have : u = v := eq_of_beq e
    subst this
    have hb := hr (hu.symm.trans hv)
    subst hb
    exact Wp.bind (Wp.rule (Wp.pure k))
  · rw [if_neg e]
    subst hu
    cases u <;> first | exact c' | exact absurd hf Bool.false_ne_true
theorem rc_list {op : CmpOp} {id : String} {B : Builtin} {a b : Addr} {ps qs : List PV} {r : Bool} (hu : A.units < cLine) (o1 : Own h a (.list ps)) (o2 : Own h b (.list qs)) (sl : Slot "list" (cmpInfo op).2.1 id) (en : entryFor table id = some B) (ar : ∀ x y, argsOk id ⟨[x, y], []⟩)
    (hop : ∀ u v, compareOp op u v = PySem.richCompare op u v) (x : ∀ Q : Flow → Heap → Prop, Q (.ret (.bool r)) h → Wp C A.in1 (B ⟨[.ref a, .ref b], []⟩) (fun fin h' => match fin with | .done f => Q f h' | .again c => c.quiet = true ∧ Cp C A c Q h') h) : Cm C A h op (.ref a) (.ref b) r := fun u v hu' hv Q k t => by
  obtain rfl := pv_ref hu'
  obtain rfl := pv_ref hv
  rw [hop]
  obtain ⟨vs, n, eo, ev⟩ := own_list o1
  obtain ⟨ws, n2, eo2, ew⟩ := own_list o2
  refine wpAny_richCompare_same_room ⟨_, eo, rfl⟩ ⟨_, eo2, rfl⟩ sl ?_ hu
  exact (Wp.call (cp_call_slot (self := .ref a) sl (fun t => ⟨_, eo, rfl⟩) en (ar _ _) (x (fun fl h' => ∃ v, fl = .ret v ∧ (v = .bool r ∧ h' = h)) ⟨_, rfl, rfl, rfl⟩))).seq t fun v h' t' q => by
    obtain ⟨rfl, rfl⟩ := q
    exact ⟨(fun z => nomatch z), _, _, rfl, k⟩
theorem drop_get {α : Type} {xs : List α} {i : Nat} {x : α} (h : xs[i]? = some x) : xs.drop i = x :: xs.drop (i + 1) := by
  obtain ⟨hi, e⟩ := List.getElem?_eq_some_iff.mp h
  rw [List.drop_eq_getElem_cons hi, e]
theorem get_pv {vs : Array Value} {ps : List PV} (e : vs.toList.map pv = ps) (i : Nat) : (∃ v p, vs[i]? = some v ∧ ps[i]? = some p ∧ pv v = p) ∨ (vs[i]? = none ∧ ps[i]? = none) := by
  subst e
  rw [List.getElem?_map]
  cases q : vs[i]? with
  | none => exact .inr ⟨rfl, by simp [q]⟩
  | some v => exact .inl ⟨v, pv v, rfl, by simp [q], rfl⟩
noncomputable def cmpRes (e lt : PV → PV → Bool) (op : CmpOp) (ps qs : List PV) : Bool := match op with
  | .Lt => ltL e lt ps qs
  | .Eq => eqL e ps qs
  | _ => !eqL e ps qs
theorem cp_eqloop {op : CmpOp} {code : Int} {a b : Addr} {ps qs : List PV} {e lt : PV → PV → Bool} {Q : Flow → Heap → Prop} (o1 : Own h a (.list ps)) (o2 : Own h b (.list qs))
    (hop : op = .Lt ∧ code = 0 ∨ op = .Eq ∧ code = 2 ∧ ps.length = qs.length ∨ op = .NotEq ∧ code = 3 ∧ ps.length = qs.length)
    (he : ∀ p ∈ ps, ∀ q ∈ qs, Eqb C A.in1 h p q (e p q)) (hl : op = .Lt → ∀ p ∈ ps, ∀ q ∈ qs, e p q = false → Cm C A.in1 h .Lt p q (lt p q)) :
    ∀ (f i : Nat), i ≤ ps.length → ps.length < i + f → Q (.ret (.bool (cmpRes e lt op (ps.drop i) (qs.drop i)))) h →
      Cp C A (.builtin "list.__eq__.loop" ⟨[.ref a, .ref b, rawInt i, rawInt code], []⟩) Q h := by
  obtain ⟨vs, n, eo, ev⟩ := own_list o1
  obtain ⟨ws, n2, eo2, ew⟩ := own_list o2
  have hsz : vs.size = ps.length := by rw [← ev, List.length_map]; simp
  have hsz2 : ws.size = qs.length := by rw [← ew, List.length_map]; simp
  have it1 : ∀ (R : Array Value → Heap → Prop), R vs h → Wp C A.in1 (Builtin.List.listItems (.ref a)) R h := fun R k t => listItems_at eo rfl ⟨_, _, rfl, k⟩
  have it2 : ∀ (R : Array Value → Heap → Prop), R ws h → Wp C A.in1 (Builtin.List.listItems (.ref b)) R h := fun R k t => listItems_at eo2 rfl ⟨_, _, rfl, k⟩
  intro f
  induction f with
  | zero => intro i hi0 hi k; lia
  | succ f ih =>
    intro i hi0 hi k
    refine cp_builtin PySem.MeetsSeq3.plain_eq_loop PySem.MeetsSeq3.entry_eq_loop ?_
    unfold Builtin.«list.__eq__.loop»
    have hc : ((i : Int) + 1) = ((i + 1 : Nat) : Int) := by push_cast; rfl
    rcases hop with ⟨rfl, rfl⟩ | ⟨rfl, rfl, hlen⟩ | ⟨rfl, rfl, hlen⟩
    · dsimp only [rawInt]
      show Wp C A.in1 (Builtin.List.listItems (.ref a) >>= _) _ h
      refine Wp.bind (it1 _ ?_)
      refine Wp.bind (it2 _ ?_)
      rw [Int.toNat_natCast]
      rcases get_pv ev i with ⟨v, p, hv, hp, pvp⟩ | ⟨hv, hp⟩
      · rcases get_pv ew i with ⟨w, q, hw, hq, pvq⟩ | ⟨hw, hq⟩
        · rw [hv, hw]
          dsimp only
          rw [drop_get hp, drop_get hq] at k
          refine Wp.bind (he p (List.mem_of_getElem? hp) q (List.mem_of_getElem? hq) v w pvp pvq _ ?_)
          cases heq : e p q with
          | true =>
            rw [if_pos rfl]
            rw [hc]
            refine Wp.pure ⟨plainId_quiet PySem.MeetsSeq3.plain_eq_loop _, ih (i + 1) (by have := (List.getElem?_eq_some_iff.mp hp).1; lia) (by lia) ?_⟩
            exact q_ret (ltL_t heq) k
          | false =>
            rw [if_neg Bool.false_ne_true]
            refine Wp.bind (it1 _ ?_)
            refine Wp.bind (it2 _ ?_)
            rw [hv, hw]
            dsimp only
            refine Wp.bind (hl rfl p (List.mem_of_getElem? hp) q (List.mem_of_getElem? hq) heq v w pvp pvq _ (Wp.pure ?_))
            exact q_ret (ltL_f heq) k
        · rw [hv, hw]
          dsimp only
          refine Wp.bind (it1 _ ?_)
          refine Wp.bind (it2 _ ?_)
          have h1 := (List.getElem?_eq_some_iff.mp hp).1
          have h2 := List.getElem?_eq_none_iff.mp hq
          rw [drop_get hp, List.drop_of_length_le h2] at k
          refine Wp.pure (show Q (.ret (.bool (decide (vs.size < ws.size)))) h from ?_)
          rw [decide_eq_false (by lia)]
          exact k
      · rcases get_pv ew i with ⟨w, q, hw, hq, pvq⟩ | ⟨hw, hq⟩
        · rw [hv, hw]
          dsimp only
          refine Wp.bind (it1 _ ?_)
          refine Wp.bind (it2 _ ?_)
          have h1 := (List.getElem?_eq_some_iff.mp hq).1
          have h2 := List.getElem?_eq_none_iff.mp hp
          rw [drop_get hq, List.drop_of_length_le h2] at k
          refine Wp.pure (show Q (.ret (.bool (decide (vs.size < ws.size)))) h from ?_)
          rw [decide_eq_true (by lia)]
          exact k
        · rw [hv, hw]
          dsimp only
          refine Wp.bind (it1 _ ?_)
          refine Wp.bind (it2 _ ?_)
          have h1 := List.getElem?_eq_none_iff.mp hp
          have h2 := List.getElem?_eq_none_iff.mp hq
          rw [List.drop_of_length_le h1, List.drop_of_length_le h2] at k
          refine Wp.pure (show Q (.ret (.bool (decide (vs.size < ws.size)))) h from ?_)
          rcases Nat.lt_or_ge ps.length qs.length with z | z
          · exfalso; lia
          · rw [decide_eq_false (by lia)]; exact k
    · dsimp only [rawInt]
      show Wp C A.in1 (Builtin.List.listItems (.ref a) >>= _) _ h
      refine Wp.bind (it1 _ ?_)
      refine Wp.bind (it2 _ ?_)
      rw [Int.toNat_natCast]
      rcases get_pv ev i with ⟨v, p, hv, hp, pvp⟩ | ⟨hv, hp⟩
      · have h1 := (List.getElem?_eq_some_iff.mp hp).1
        rcases get_pv ew i with ⟨w, q, hw, hq, pvq⟩ | ⟨hw, hq⟩
        · rw [hv, hw]
          dsimp only
          rw [drop_get hp, drop_get hq] at k
          refine Wp.bind (he p (List.mem_of_getElem? hp) q (List.mem_of_getElem? hq) v w pvp pvq _ ?_)
          cases heq : e p q with
          | true =>
            rw [if_pos rfl]
            rw [hc]
            refine Wp.pure ⟨plainId_quiet PySem.MeetsSeq3.plain_eq_loop _, ih (i + 1) (by lia) (by lia) ?_⟩
            exact q_ret (eqL_t heq) k
          | false =>
            rw [if_neg Bool.false_ne_true]
            refine Wp.bind (it1 _ ?_)
            refine Wp.bind (it2 _ ?_)
            rw [hv, hw]
            dsimp only
            refine Wp.pure ?_
            exact q_ret (eqL_f heq) k
        · have h2 := List.getElem?_eq_none_iff.mp hq
          exfalso; lia
      · have h1 := List.getElem?_eq_none_iff.mp hp
        have hq : qs[i]? = none := List.getElem?_eq_none_iff.mpr (by lia)
        rcases get_pv ew i with ⟨w, q, hw, hq', pvq⟩ | ⟨hw, _⟩
        · rw [hq] at hq'; cases hq'
        rw [hv, hw]
        dsimp only
        refine Wp.bind (it1 _ ?_)
        refine Wp.bind (it2 _ ?_)
        rw [List.drop_of_length_le h1, List.drop_of_length_le (by lia)] at k
        refine Wp.pure (show Q (.ret (.bool (vs.size == ws.size))) h from ?_)
        rw [hsz, hsz2, hlen]
        exact q_ret (b := true) (beq_self_eq_true _).symm k
    · dsimp only [rawInt]
      show Wp C A.in1 (Builtin.List.listItems (.ref a) >>= _) _ h
      refine Wp.bind (it1 _ ?_)
      refine Wp.bind (it2 _ ?_)
      rw [Int.toNat_natCast]
      rcases get_pv ev i with ⟨v, p, hv, hp, pvp⟩ | ⟨hv, hp⟩
      · have h1 := (List.getElem?_eq_some_iff.mp hp).1
        rcases get_pv ew i with ⟨w, q, hw, hq, pvq⟩ | ⟨hw, hq⟩
        · rw [hv, hw]
          dsimp only
          rw [drop_get hp, drop_get hq] at k
          refine Wp.bind (he p (List.mem_of_getElem? hp) q (List.mem_of_getElem? hq) v w pvp pvq _ ?_)
          cases heq : e p q with
          | true =>
            rw [if_pos rfl]
            rw [hc]
            refine Wp.pure ⟨plainId_quiet PySem.MeetsSeq3.plain_eq_loop _, ih (i + 1) (by lia) (by lia) ?_⟩
            exact q_ret (congrArg Bool.not (eqL_t heq)) k
          | false =>
            rw [if_neg Bool.false_ne_true]
            refine Wp.bind (it1 _ ?_)
            refine Wp.bind (it2 _ ?_)
            rw [hv, hw]
            dsimp only
            refine Wp.pure ?_
            exact q_ret (congrArg Bool.not (eqL_f heq)) k
        · have h2 := List.getElem?_eq_none_iff.mp hq
          exfalso; lia
      · have h1 := List.getElem?_eq_none_iff.mp hp
        have hq : qs[i]? = none := List.getElem?_eq_none_iff.mpr (by lia)
        rcases get_pv ew i with ⟨w, q, hw, hq', pvq⟩ | ⟨hw, _⟩
        · rw [hq] at hq'; cases hq'
        rw [hv, hw]
        dsimp only
        refine Wp.bind (it1 _ ?_)
        refine Wp.bind (it2 _ ?_)
        rw [List.drop_of_length_le h1, List.drop_of_length_le (by lia)] at k
        refine Wp.pure (show Q (.ret (.bool (vs.size != ws.size))) h from ?_)
        rw [hsz, hsz2, hlen]
        exact q_ret (b := false) (bne_self_eq_false _).symm k

theorem sub_list_refl : isSubtype (.type "list") (.type "list") = Pure.pure true := AutoSeq1.sub_list_list
theorem c_eq_list {a b : Addr} {ps qs : List PV} {e : PV → PV → Bool} (hu : A.units < cLine) (o1 : Own h a (.list ps)) (o2 : Own h b (.list qs))
    (he : ∀ p ∈ ps, ∀ q ∈ qs, Eqb C A.in1 h p q (e p q)) : Cm C A h .Eq (.ref a) (.ref b) (eqL e ps qs) := by
  refine rc_list hu o1 o2 PySem.F.slot_list_eq PySem.F.entry_list_eq (fun x y => PySem.F.args_list_eq_2 x y) (fun _ _ => rfl) fun Q k => ?_
  obtain ⟨vs, n, eo, ev⟩ := own_list o1
  obtain ⟨ws, n2, eo2, ew⟩ := own_list o2
  have hsz : vs.size = ps.length := by rw [← ev, List.length_map]; simp
  have hsz2 : ws.size = qs.length := by rw [← ew, List.length_map]; simp
  show Wp C A.in1 (PySem.isInstance (.ref b) (.type "list") >>= _) _ h
  refine Wp.bind (show Wp C A.in1 (PySem.isInstance (.ref b) (.type "list")) _ h from fun t => wpAny_isInstance (T := "list") (U := "list") ⟨_, eo2, rfl⟩ sub_list_refl ⟨_, _, rfl, ?_⟩)
  show Wp C A.in1 (Builtin.List.listItems (.ref a) >>= _) _ h
  refine Wp.bind (show Wp C A.in1 (Builtin.List.listItems (.ref a)) _ h from fun t => listItems_at eo rfl ⟨_, _, rfl, ?_⟩)
  refine Wp.bind (show Wp C A.in1 (Builtin.List.listItems (.ref b)) _ h from fun t => listItems_at eo2 rfl ⟨_, _, rfl, ?_⟩)
  by_cases hlen : ps.length = qs.length
  · rw [if_neg (by rw [hsz, hsz2, hlen]; simp)]
    refine Wp.pure ⟨plainId_quiet PySem.MeetsSeq3.plain_eq_loop _, ?_⟩
    exact cp_eqloop (op := .Eq) (code := 2) (e := e) (lt := fun _ _ => false) o1 o2 (.inr (.inl ⟨rfl, rfl, hlen⟩)) he (fun z => nomatch z) (ps.length + 1) 0 (Nat.zero_le _) (by lia) k
  · rw [if_pos (by rw [hsz, hsz2]; simpa using hlen)]
    refine Wp.bind (Wp.rule (Wp.pure ?_))
    have : eqL e ps qs = false := by
      cases q : eqL e ps qs with
      | false => rfl
      | true => exact absurd (eqL_len q) hlen
    rw [this] at k
    exact k
theorem c_ne_list {a b : Addr} {ps qs : List PV} {e : PV → PV → Bool} (hu : A.units < cLine) (o1 : Own h a (.list ps)) (o2 : Own h b (.list qs))
    (he : ∀ p ∈ ps, ∀ q ∈ qs, Eqb C A.in1 h p q (e p q)) : Cm C A h .NotEq (.ref a) (.ref b) (!eqL e ps qs) := by
  refine rc_list hu o1 o2 PySem.F.slot_list_ne PySem.F.entry_list_ne (fun x y => PySem.F.args_list_ne_2 x y) (fun _ _ => rfl) fun Q k => ?_
  obtain ⟨vs, n, eo, ev⟩ := own_list o1
  obtain ⟨ws, n2, eo2, ew⟩ := own_list o2
  have hsz : vs.size = ps.length := by rw [← ev, List.length_map]; simp
  have hsz2 : ws.size = qs.length := by rw [← ew, List.length_map]; simp
  show Wp C A.in1 (PySem.isInstance (.ref b) (.type "list") >>= _) _ h
  refine Wp.bind (show Wp C A.in1 (PySem.isInstance (.ref b) (.type "list")) _ h from fun t => wpAny_isInstance (T := "list") (U := "list") ⟨_, eo2, rfl⟩ sub_list_refl ⟨_, _, rfl, ?_⟩)
  show Wp C A.in1 (Builtin.List.listItems (.ref a) >>= _) _ h
  refine Wp.bind (show Wp C A.in1 (Builtin.List.listItems (.ref a)) _ h from fun t => listItems_at eo rfl ⟨_, _, rfl, ?_⟩)
  refine Wp.bind (show Wp C A.in1 (Builtin.List.listItems (.ref b)) _ h from fun t => listItems_at eo2 rfl ⟨_, _, rfl, ?_⟩)
  by_cases hlen : ps.length = qs.length
  · rw [if_neg (by rw [hsz, hsz2, hlen]; simp)]
    refine Wp.pure ⟨plainId_quiet PySem.MeetsSeq3.plain_eq_loop _, ?_⟩
    exact cp_eqloop (op := .NotEq) (code := 3) (e := e) (lt := fun _ _ => false) o1 o2 (.inr (.inr ⟨rfl, rfl, hlen⟩)) he (fun z => nomatch z) (ps.length + 1) 0 (Nat.zero_le _) (by lia) k
  · rw [if_pos (by rw [hsz, hsz2]; simpa using hlen)]
    refine Wp.bind (Wp.rule (Wp.pure ?_))
    have : eqL e ps qs = false := by
      cases q : eqL e ps qs with
      | false => rfl
      | true => exact absurd (eqL_len q) hlen
    rw [this] at k
    exact k
theorem arr_beq {α : Type} [BEq α] [LawfulBEq α] [DecidableEq α] {a b : Array α} : (a.toList == b.toList) = decide (a = b) := by
  by_cases e : a = b
  · subst e; simp
  · rw [decide_eq_false e, beq_eq_false_iff_ne]; exact fun z => e (Array.toList_inj.mp z)
theorem eqb_int {i j : Int} : Eqb C A h (.int i) (.int j) (decide (i = j)) := eqb_of c_eq rfl (fun e => by cases e; simp)
end

noncomputable def eqPV : PV → PV → Bool
  | .int i, .int j => decide (i = j)
  | .bytes a, .bytes b => decide (a = b)
  | .str a, .str b => a == b
  | _, _ => false
noncomputable def kindPV : PV → Nat
  | .int _ => 1
  | .bytes _ => 2
  | .str _ => 3
  | _ => 0
section
variable {C : Cx} {A : Around} {h h₀ h' : Heap} {env : Env} {l l' : List (Str × Option PV)} {cs cs' : List (Addr × AO)} {K : Frag}
theorem eqAt_bytes {s : Shared} {a b : Array UInt8} {t u : Tok} : SeqAt.EqAt A s (.bytes a t) (.bytes b u) (decide (a = b)) := fun prog w E Q hq => by
  unfold eqBool
  refine wpAny_holding ?_
  by_cases e : (Value.bytes a t == Value.bytes b u) = true
  · rw [if_pos e]
    have : Value.bytes a t = Value.bytes b u := eq_of_beq e
    have e2 : a = b := by cases this; rfl
    subst e2
    exact wpAny_bind (wpAny_rule (wpAny_pure (by simpa using hq)))
  · rw [if_neg e]
    refine wpAny_bind ?_
    show wpAny _ _ (compareOp .Eq (.bytes a t) (.bytes b u)) _ _ _
    refine eq_bytes ?_
    rw [arr_beq]
    exact wpAny_truthy_bool hq
theorem eqAt_of {s : Shared} {u v : Value} (hk : kindPV (pv u) = kindPV (pv v)) (h0 : kindPV (pv u) ≠ 0) : SeqAt.EqAt A s u v (eqPV (pv u) (pv v)) := by
  cases u <;> cases v <;> first | exact absurd rfl h0 | exact absurd (show (1 : Nat) = 0 from hk) (by decide) | exact absurd (show (1 : Nat) = 2 from hk) (by decide) | exact absurd (show (1 : Nat) = 3 from hk) (by decide) | exact absurd (show (2 : Nat) = 0 from hk) (by decide) | exact absurd (show (2 : Nat) = 1 from hk) (by decide) | exact absurd (show (2 : Nat) = 3 from hk) (by decide) | exact absurd (show (3 : Nat) = 0 from hk) (by decide) | exact absurd (show (3 : Nat) = 1 from hk) (by decide) | exact absurd (show (3 : Nat) = 2 from hk) (by decide) | skip
  · exact MeetsSeq.EqGives.at (MeetsSeq.EqGives.int _ _ _ _) _ _
  · exact MeetsSeq.EqGives.at (eqGives_str _ _ _ _) _ _
  · exact eqAt_bytes
theorem any_pv {vs : Array Value} {ps : List PV} (e : vs.toList.map pv = ps) (f : PV → Bool) : vs.any (fun v => f (pv v)) = ps.any f := by
  subst e; rw [List.any_map, ← Array.any_toList]; rfl
theorem c_in_tup {a : Addr} {ps : List PV} {q : PV} (o : Own h a (.tup ps)) (hk : ps.all (fun p => kindPV p == kindPV q) = true) (h0 : kindPV q ≠ 0) : Cm C A h .In q (.ref a) (ps.any fun p => eqPV p q) := fun u v hu hv Q k t => by
  obtain rfl := pv_ref hv
  obtain ⟨vs, il, ev⟩ := own_isTuple o
  subst hu
  refine SeqAt.in_tupleAt (fun y => eqPV (pv y) (pv u)) il (fun y hy => ?_) ⟨_, _, rfl, by rw [any_pv ev (fun p => eqPV p (pv u))]; exact k⟩
  have hm : pv y ∈ ps := by rw [← ev]; exact List.mem_map.mpr ⟨y, by simpa using hy, rfl⟩
  have := List.all_eq_true.mp hk _ hm
  have e : kindPV (pv y) = kindPV (pv u) := by simpa using this
  exact eqAt_of e (by rw [e]; exact h0)
theorem c_ne_bytes {a b : Array UInt8} : Cm C A h .NotEq (.bytes a) (.bytes b) (!decide (a = b)) := fun u v hu hv Q k t => by
  obtain ⟨_, rfl⟩ := pv_bytes hu; obtain ⟨_, rfl⟩ := pv_bytes hv
  refine ne_bytes ⟨_, _, rfl, ?_⟩
  rw [bne, arr_beq]; exact k
theorem ite_t {P R : Prop} (x : P) : if true = true then P else R := x
theorem ite_f {P R : Prop} (x : R) : if false = true then P else R := x
theorem exs_t {a b : List Stmt} {Q : Flow → Heap → Prop} (x : Wp C A (execs a env) Q h) : Wp C A (execs (if true = true then a else b) env) Q h := x
theorem exs_f {a b : List Stmt} {Q : Flow → Heap → Prop} (x : Wp C A (execs b env) Q h) : Wp C A (execs (if false = true then a else b) env) Q h := x
theorem ev_t {a b : Expr} {Q : Value → Heap → Prop} (x : Wp C A (eval a env) Q h) : Wp C A (eval (if true = true then a else b) env) Q h := x
theorem ev_f {a b : Expr} {Q : Value → Heap → Prop} (x : Wp C A (eval b env) Q h) : Wp C A (eval (if false = true then a else b) env) Q h := x
theorem w_testCmp {a b : Expr} {op : CmpOp} {pos : Pos} {Q : Bool → Heap → Prop} (x : Wp C A (eval a env) (fun u h1 => Wp C A (eval b env) (fun v h2 => Wp C A (compareOp op u v) (fun w h3 => ∃ c, w = .bool c ∧ Q c h3) h2) h1) h)
    (hm : behindInMarks op b = false := by with_unfolding_all rfl) : Wp C A (isTrue (.Compare a [op] [b] pos) env (eval (.Compare a [op] [b] pos) env)) Q h :=
  fun t => wpAny_isTrue_Compare1 (x.seq t fun _ _ t1 q1 => q1.seq t1 fun _ _ t2 q2 => q2.seq t2 fun w h3 t3 q3 => by
    obtain ⟨c, rfl, q⟩ := q3; exact wpAny_truthy_bool ⟨_, _, rfl, q⟩) hm
theorem w_testPt {e : Expr} {b : Bool} {Q : Bool → Heap → Prop} (x : Pt C A env h e b) (k : Q b h) : Wp C A (isTrue e env (eval e env)) Q h := x Q k
theorem x_ifW {test : Expr} {body orelse : List Stmt} {pos : Pos} {rest : List Stmt} {Q : Flow → Heap → Prop}
    (x : Wp C A (isTrue test env (eval test env)) (fun b h1 => Wp C A (execs (if b = true then body else orelse) env) (Sq C A env rest Q) h1) h) : Wp C A (execs (.If test body orelse pos :: rest) env) Q h :=
  x_cons fun t => wpAny_If (x.seq t fun c _ t' q => by
    cases c with
    | true => simp only [if_true] at q ⊢; exact q t'
    | false => simp only [Bool.false_eq_true, if_false] at q ⊢; exact q t')
theorem w_testAnd {a b : Expr} {pos : Pos} {Q : Bool → Heap → Prop} (x : Wp C A (isTrue a env (eval a env)) (fun c h1 => if c = true then Wp C A (isTrue b env (eval b env)) Q h1 else Q false h1) h) :
    Wp C A (isTrue (.BoolOp .And [a, b] pos) env (eval (.BoolOp .And [a, b] pos) env)) Q h := fun t =>
  wpAny_isTrue_BoolOp (wpAny_allTrue_And_cons (x.seq t fun c h1 t1 q => by
    cases c with
    | true =>
      simp only [if_true] at q ⊢
      exact wpAny_allTrue_And_cons (q.seq t1 fun d h2 t2 q2 => by
        cases d with
        | true => simp only [if_true]; exact wpAny_allTrue_And_nil ⟨_, _, rfl, q2⟩
        | false => simp only [Bool.false_eq_true, if_false]; exact ⟨_, _, rfl, q2⟩)
    | false => simp only [Bool.false_eq_true, if_false] at q ⊢; exact ⟨_, _, rfl, q⟩))
theorem w_ifExp {test body orelse : Expr} {pos : Pos} {Q : Value → Heap → Prop} (x : Wp C A (isTrue test env (eval test env)) (fun c h1 => Wp C A (eval (if c = true then body else orelse) env) Q h1) h) : Wp C A (eval (.IfExp test body orelse pos) env) Q h :=
  fun t => IfExp_ (x.seq t fun c _ t1 q => by cases c <;> exact q t1)
theorem x_aug {x : Str} {p1 pos : Pos} {op : Operator} {e : Expr} {rest : List Stmt} {p q r : PV} {Q : Flow → Heap → Prop} (Z : St env h₀ l cs h) (a : At l x p) (y : Pe C A env h e q)
    (hop : ∀ u v, pv u = p → pv v = q → ∀ R : Value → Heap → Prop, (∀ w, pv w = r → R w h) → Wp C A (inplaceOp op u v) R h) (hp : Put x r l l')
    (k : ∀ h', St env h₀ l' cs h' → Wp C A (execs rest env) Q h') : Wp C A (execs (.AugAssign (.Name x p1) op e pos :: rest) env) Q h :=
  x_cons fun t => wpAny_AugAssign_Name ((w_load Z a (Q := fun v h' => pv v = p ∧ h' = h) fun v hv => ⟨hv, rfl⟩).seq t fun u _ t1 q1 => by
    obtain ⟨hu, rfl⟩ := q1
    exact (y (fun v h' => pv v = q ∧ h' = _) fun v hv => ⟨hv, rfl⟩).seq t1 fun v _ t2 q2 => by
      obtain ⟨hv, rfl⟩ := q2
      exact (hop u v hu hv (fun w h' => pv w = r ∧ h' = _) fun w hw => ⟨hw, rfl⟩).seq t2 fun w _ t3 q3 => by
        obtain ⟨hw, rfl⟩ := q3
        exact (w_store Z hw hp k).seq t3 fun _ _ _ q => ⟨_, _, rfl, q⟩)
theorem aug_add {i j : Int} : ∀ u v, pv u = .int i → pv v = .int j → ∀ R : Value → Heap → Prop, (∀ w, pv w = .int (i + j) → R w h) → Wp C A (inplaceOp .Add u v) R h := fun u v hu hv R k t => by
  obtain ⟨_, rfl⟩ := pv_int hu; obtain ⟨_, rfl⟩ := pv_int hv
  exact PyProof.Rows.iadd_int ⟨_, _, rfl, k _ rfl⟩
theorem aug_sub {i j : Int} : ∀ u v, pv u = .int i → pv v = .int j → ∀ R : Value → Heap → Prop, (∀ w, pv w = .int (i - j) → R w h) → Wp C A (inplaceOp .Sub u v) R h := fun u v hu hv R k t => by
  obtain ⟨_, rfl⟩ := pv_int hu; obtain ⟨_, rfl⟩ := pv_int hv
  exact PyProof.Rows.isub_int ⟨_, _, rfl, k _ rfl⟩
theorem w_unpack2 {n1 n2 : Str} {p1 p2 pos : Pos} {k0 : Nat} {t : Addr} {q1 q2 : PV} {l1 l2 : List (Str × Option PV)} {Q : Unit → Heap → Prop} (hh : A.handled = none) (Z : St env h₀ l cs h) (o : Own h t (.tup [q1, q2])) (a1 : Put n1 q1 l l1) (a2 : Put n2 q2 l1 l2)
    (k : ∀ h', St env h₀ l2 cs h' → Q () h') : Wp C A (assign (.Tuple [.Name n1 p1, .Name n2 p2] k0 pos) env (.ref t)) Q h := fun tk => by
  obtain ⟨vs, il, ev⟩ := own_isTuple o
  obtain ⟨v1, v2, e, e1, e2⟩ : ∃ v1 v2, vs.toList = [v1, v2] ∧ pv v1 = q1 ∧ pv v2 = q2 := by
    rcases hv : vs.toList with _ | ⟨v1, _ | ⟨v2, _ | ⟨v3, r⟩⟩⟩ <;> rw [hv] at ev <;> simp at ev
    exact ⟨v1, v2, rfl, ev.1, ev.2⟩
  have hsz : vs.size = 2 := by rw [← Array.length_toList, e]; rfl
  refine wpAny_assign_Tuple hh il (by rw [hsz]; rfl) (by rfl) fun h' he => ?_
  rw [e]
  have Z' : St env h₀ l cs h' := Z.keeps fun b o' q => he b o' (Nat.ne_of_lt (Heap.lt_size q)) q
  show wpAny _ _ (assignInOrder [assign (.Name n1 p1) env, assign (.Name n2 p2) env] [v1, v2]) _ _ _
  refine (Wp.bind (Wp.holding (w_assignName (w_store Z' e1 a1 fun h2 Z2 => Wp.bind (Wp.holding (w_assignName (w_store Z2 e2 a2 fun h3 Z3 => Wp.pure (k h3 Z3))))))) : Wp C A (assignInOrder [assign (.Name n1 p1) env, assign (.Name n2 p2) env] [v1, v2]) Q h') tk
theorem w_unpack3 {n1 n2 n3 : Str} {p1 p2 p3 pos : Pos} {k0 : Nat} {t : Addr} {q1 q2 q3 : PV} {l1 l2 l3 : List (Str × Option PV)} {Q : Unit → Heap → Prop} (hh : A.handled = none) (Z : St env h₀ l cs h) (o : Own h t (.tup [q1, q2, q3])) (a1 : Put n1 q1 l l1) (a2 : Put n2 q2 l1 l2) (a3 : Put n3 q3 l2 l3)
    (k : ∀ h', St env h₀ l3 cs h' → Q () h') : Wp C A (assign (.Tuple [.Name n1 p1, .Name n2 p2, .Name n3 p3] k0 pos) env (.ref t)) Q h := fun tk => by
  obtain ⟨vs, il, ev⟩ := own_isTuple o
  obtain ⟨v1, v2, v3, e, e1, e2, e3⟩ : ∃ v1 v2 v3, vs.toList = [v1, v2, v3] ∧ pv v1 = q1 ∧ pv v2 = q2 ∧ pv v3 = q3 := by
    rcases hv : vs.toList with _ | ⟨v1, _ | ⟨v2, _ | ⟨v3, _ | ⟨v4, r⟩⟩⟩⟩ <;> rw [hv] at ev <;> simp at ev
    exact ⟨v1, v2, v3, rfl, ev.1, ev.2.1, ev.2.2⟩
  have hsz : vs.size = 3 := by rw [← Array.length_toList, e]; rfl
  refine wpAny_assign_Tuple hh il (by rw [hsz]; rfl) (by rfl) fun h' he => ?_
  rw [e]
  have Z' : St env h₀ l cs h' := Z.keeps fun b o' q => he b o' (Nat.ne_of_lt (Heap.lt_size q)) q
  show wpAny _ _ (assignInOrder [assign (.Name n1 p1) env, assign (.Name n2 p2) env, assign (.Name n3 p3) env] [v1, v2, v3]) _ _ _
  refine (Wp.bind (Wp.holding (w_assignName (w_store Z' e1 a1 fun h2 Z2 => Wp.bind (Wp.holding (w_assignName (w_store Z2 e2 a2 fun h3 Z3 => Wp.bind (Wp.holding (w_assignName (w_store Z3 e3 a3 fun h4 Z4 => Wp.pure (k h4 Z4)))))))))) : Wp C A (assignInOrder [assign (.Name n1 p1) env, assign (.Name n2 p2) env, assign (.Name n3 p3) env] [v1, v2, v3]) Q h') tk
theorem x_assignTup {elts : List Expr} {k0 : Nat} {tpos pos : Pos} {e : Expr} {rest : List Stmt} {Q : Flow → Heap → Prop} (x : Wp C A (eval e env) (fun v h1 => Wp C A (assign (.Tuple elts k0 tpos) env v) (fun _ h2 => Wp C A (execs rest env) Q h2) h1) h)
    (hs : swapsWithSole [.Tuple elts k0 tpos] e pos.line env = Pure.pure false := by rfl) (hw : swappedStores [.Tuple elts k0 tpos] e env = Pure.pure none := by rfl) :
    Wp C A (execs (.Assign [.Tuple elts k0 tpos] e pos :: rest) env) Q h :=
  x_cons fun t => Assign_Tuple (x.seq t fun _ _ t1 q => q.seq t1 fun _ _ _ q => ⟨_, _, rfl, q⟩) hs hw
theorem w_chr {v : Value} {i : Int} {Q : Value → Heap → Prop} (hv : pv v = .int i) (h0 : 0 ≤ i) (h1 : i ≤ 1114111) (k : ∀ w, pv w = .str ⟨#[i.toNat]⟩ → Q w h) : Wp C A (call (.builtin "chr") [v]) Q h := fun t => by
  obtain ⟨u, rfl⟩ := pv_int hv
  exact chr_of_range h0 h1 ⟨_, _, rfl, k _ rfl⟩
theorem w_intBool {v : Value} {b : Bool} {Q : Value → Heap → Prop} (hv : pv v = .bool b) (k : ∀ w, pv w = .int (if b then 1 else 0) → Q w h) : Wp C A (call (.type "int") [v]) Q h := fun t => by
  obtain rfl := pv_bool hv
  exact call_int_bool ⟨_, _, rfl, k _ rfl⟩
theorem ints_items : ∀ {vs : List Value} {ns : List Int}, vs.map pv = ns.map PV.int → ∃ xs : Array (Int × Tok), vs = (intItems xs).toList ∧ xs.toList.map (·.1) = ns
  | [], [], _ => ⟨#[], by simp [intItems], rfl⟩
  | v :: vs, n :: ns, e => by
    simp only [List.map_cons, List.cons.injEq] at e
    obtain ⟨t, rfl⟩ := pv_int e.1
    obtain ⟨xs, rfl, h2⟩ := ints_items e.2
    exact ⟨((n, t) :: xs.toList).toArray, by simp [intItems], by simp [h2]⟩
  | [], _ :: _, e => by simp at e
  | _ :: _, [], e => by simp at e
theorem preSum_nums (xs : Array (Int × Tok)) : preSum (numAt xs) xs.size = (xs.toList.map (·.1)).sum := by
  have : ∀ j, j ≤ xs.size → preSum (numAt xs) j = ((xs.toList.map (·.1)).take j).sum := by
    intro j
    induction j with
    | zero => intro _; simp [preSum]
    | succ j ih =>
      intro hj
      rw [preSum, ih (by lia), List.take_succ]
      have e : (xs.toList.map (·.1))[j]? = some (numAt xs j) := by
        rw [List.getElem?_map, Array.getElem?_toList, Array.getElem?_eq_getElem (by lia)]
        simp [numAt, Array.getElem?_eq_getElem (by lia : j < xs.size)]
      rw [e]; simp
  rw [this _ (Nat.le_refl _), List.take_of_length_le (by simp)]
theorem w_sum {a : Addr} {ns : List Int} {Q : Value → Heap → Prop} (hh : A.handled = none) (o : Own h a (.list (ns.map PV.int))) (k : ∀ v h', pv v = .int ns.sum → Keeps h h' → Q v h') : Wp C A (call (.builtin "sum") [.ref a]) Q h := fun t => by
  obtain ⟨vs, il, ev⟩ := own_isList o
  obtain ⟨xs, e1, e2⟩ := ints_items ev
  have : vs = intItems xs := Array.toList_inj.mp e1
  subst this
  refine sum_intListG hh il fun h' tk t' kp => ⟨_, _, rfl, k _ _ ?_ kp⟩
  rw [preSum_nums, e2]; rfl
theorem w_mkInt {i : Int} {Q : Value → Heap → Prop} (k : ∀ v, pv v = .int i → Q v h) : Wp C A (mkInt i) Q h := fun t => wpAny_mkInt ⟨_, _, rfl, k _ rfl⟩
theorem plain_count_loop' : plainId "list.count.loop" = true := by decide +kernel
theorem entry_count_loop' : entryFor table "list.count.loop" = some Builtin.«list.count.loop» := entryFor_of_tree (by kernel_rfl)
theorem cp_countloop {a : Addr} {ps : List PV} {q : PV} {v : Value} {e : PV → Bool} {Q : Flow → Heap → Prop} (o : Own h a (.list ps)) (hv : pv v = q) (he : ∀ p ∈ ps, Eqb C A.in1 h p q (e p)) :
    ∀ (f i n : Nat), i + f = ps.length → (∀ w, pv w = .int ((n + (ps.drop i).countP e : Nat) : Int) → Q (.ret w) h) → Cp C A (.builtin "list.count.loop" ⟨[.ref a, v, rawInt i, rawInt n], []⟩) Q h := by
  obtain ⟨vs, n0, eo, ev⟩ := own_list o
  have it1 : ∀ (R : Array Value → Heap → Prop), R vs h → Wp C A.in1 (Builtin.List.listItems (.ref a)) R h := fun R k t => listItems_at eo rfl ⟨_, _, rfl, k⟩
  intro f
  induction f with
  | zero =>
    intro i n hi k
    refine cp_builtin plain_count_loop' entry_count_loop' ?_
    unfold Builtin.«list.count.loop»
    dsimp only [rawInt]
    refine Wp.bind (it1 _ ?_)
    rw [Int.toNat_natCast]
    rcases get_pv ev i with ⟨w, p, hw, hp, _⟩ | ⟨hw, hp⟩
    · have := (List.getElem?_eq_some_iff.mp hp).1; lia
    rw [hw]
    dsimp only
    rw [List.drop_of_length_le (by lia)] at k
    exact Wp.bind (w_mkInt fun w hw => Wp.pure (k w (by rw [hw]; simp)))
  | succ f ih =>
    intro i n hi k
    refine cp_builtin plain_count_loop' entry_count_loop' ?_
    unfold Builtin.«list.count.loop»
    dsimp only [rawInt]
    refine Wp.bind (it1 _ ?_)
    rw [Int.toNat_natCast]
    rcases get_pv ev i with ⟨w, p, hw, hp, pvp⟩ | ⟨hw, hp⟩
    · rw [hw]
      dsimp only
      rw [drop_get hp, List.countP_cons] at k
      refine Wp.bind (he p (List.mem_of_getElem? hp) w v pvp hv _ ?_)
      rw [show (i : Int) + 1 = ((i + 1 : Nat) : Int) by exact (Int.natCast_succ _).symm]
      cases hq : e p with
      | true =>
        rw [if_pos rfl]
        refine Wp.pure ⟨plainId_quiet plain_count_loop' _, ?_⟩
        rw [show (n : Int) + 1 = ((n + 1 : Nat) : Int) by exact (Int.natCast_succ _).symm]
        refine ih (i + 1) (n + 1) (by lia) fun w hw => k w ?_
        rw [hw, hq]; simp; lia
      | false =>
        rw [if_neg Bool.false_ne_true]
        refine Wp.pure ⟨plainId_quiet plain_count_loop' _, ?_⟩
        refine ih (i + 1) n (by lia) fun w hw => k w ?_
        rw [hw, hq]; simp
    · have := List.getElem?_eq_none_iff.mp hp; lia
theorem w_count {a : Addr} {ps : List PV} {q : PV} {v : Value} {e : PV → Bool} {Q : Value → Heap → Prop} (o : Own h a (.list ps)) (hv : pv v = q) (he : ∀ p ∈ ps, Eqb C A.in1 h p q (e p)) (k : ∀ w, pv w = .int ((ps.countP e : Nat) : Int) → Q w h) :
    Wp C A (call (.builtin "list.count") [.ref a, v]) Q h := by
  obtain ⟨vs, n0, eo, ev⟩ := own_list o
  refine Wp.call (cp_call_slot (self := .ref a) PySem.F.slot_list_count (fun t => ⟨_, eo, rfl⟩) PySem.F.entry_list_count (PySem.F.args_list_count_2 _ _) ?_)
  show Wp C A.in1 (again (.builtin "list.count.loop" ⟨[.ref a, v, rawInt 0, rawInt 0], []⟩)) _ h
  refine Wp.pure ⟨plainId_quiet plain_count_loop' _, ?_⟩
  exact cp_countloop o hv he ps.length 0 0 (by lia) fun w hw => ⟨w, rfl, k w (by simpa using hw)⟩
end
section
variable {C : Cx} {A : Around} {h h₀ : Heap} {env : Env} {l : List (Str × Option PV)} {cs : List (Addr × AO)}
theorem Pe.useR {e : Expr} {a : Addr} {Q : Value → Heap → Prop} (x : Pe C A env h e (.ref a)) (k : Q (.ref a) h) : Wp C A (eval e env) Q h := x Q fun _ hv => pv_ref hv ▸ k
theorem sz_of {vs : List Value} {ps : List PV} (e : vs.map pv = ps) (hz : Nat.ble ps.length sizeLine = true) : vs.length ≤ sizeLine := by
  rw [← e, List.length_map] at hz
  exact Nat.le_of_ble_eq_true hz
theorem w_newTupE {vs : List Value} {ps : List PV} {Q : Value → Heap → Prop} (Z : St env h₀ l cs h) (e : vs.map pv = ps) (k : ∀ a h', St env h₀ l ((a, .tup ps) :: cs) h' → Q (.ref a) h') (hz : Nat.ble ps.length sizeLine = true := by rfl) : Wp C A (newTuple vs) Q h :=
  w_newTuple Z (sz_of e hz) (e ▸ k)
theorem w_newListE {vs : List Value} {ps : List PV} {Q : Value → Heap → Prop} (Z : St env h₀ l cs h) (e : vs.map pv = ps) (k : ∀ a h', St env h₀ l ((a, .list ps) :: cs) h' → Q (.ref a) h') (hz : Nat.ble ps.length sizeLine = true := by rfl) : Wp C A (newList vs) Q h :=
  w_newList Z (sz_of e hz) (e ▸ k)
theorem mp2 {u v : Value} {p q : PV} (a : pv u = p) (b : pv v = q) : [u, v].map pv = [p, q] := by rw [← a, ← b]; rfl
theorem mp3 {u v w : Value} {p q r : PV} (a : pv u = p) (b : pv v = q) (c : pv w = r) : [u, v, w].map pv = [p, q, r] := by rw [← a, ← b, ← c]; rfl
theorem w_tupP {es : List Expr} {n : Nat} {pos : Pos} {ps : List PV} {Q : Value → Heap → Prop} (Z : St env h₀ l cs h) (x : Ps C A env h es ps) (k : ∀ a h', St env h₀ l ((a, .tup ps) :: cs) h' → Q (.ref a) h') (hz : Nat.ble ps.length sizeLine = true := by rfl) :
    Wp C A (eval (.Tuple es n pos) env) Q h := w_Tuple (x _ _ fun _ e => w_newTupE Z e k hz)
theorem w_listP {es : List Expr} {pos : Pos} {ps : List PV} {Q : Value → Heap → Prop} (Z : St env h₀ l cs h) (x : Ps C A env h es ps) (k : ∀ a h', St env h₀ l ((a, .list ps) :: cs) h' → Q (.ref a) h') (hz : Nat.ble ps.length sizeLine = true := by rfl) :
    Wp C A (eval (.List es pos) env) Q h := w_List (x _ _ fun _ e => w_newListE Z e k hz)
theorem w_inTupP {a : Expr} {es : List Expr} {n : Nat} {p1 pos : Pos} {p : PV} {ps : List PV} {Q : Bool → Heap → Prop} (Z : St env h₀ l cs h) (x : Pe C A env h a p) (y : Ps C A env h es ps) (hk : ps.all (fun q => kindPV q == kindPV p) = true) (h0 : kindPV p ≠ 0)
    (k : ∀ h', St env h₀ l cs h' → Q (ps.any fun q => eqPV q p) h') (hz : Nat.ble ps.length sizeLine = true := by rfl) (hm : behindInMarks .In (.Tuple es n p1) = false := by with_unfolding_all rfl) :
    Wp C A (isTrue (.Compare a [.In] [.Tuple es n p1] pos) env (eval (.Compare a [.In] [.Tuple es n p1] pos) env)) Q h :=
  w_testCmp (x.use fun v1 hv1 => w_tupP Z y (fun _ h' Z' => c_in_tup (Z'.get .here) hk h0 v1 _ hv1 rfl _ ⟨_, rfl, k h' Z'.drop⟩) hz) hm
theorem w_mlist {o : Expr} {name : Str} {id : String} {apos pos : Pos} {e : Expr} {r : List Expr} {a : Addr} {ps : List PV} {Q : Value → Heap → Prop} (x : Pe C A env h o (.ref a)) (ol : Own h a (.list ps)) (sl : Slot "list" name id) (ty : typeOf (.builtin id) = Pure.pure (.type "method_descriptor"))
    (y : Wp C A (spliced (backTo pos (starEach (e :: r) env))) (fun vs h1 => Wp C A (call (.builtin id) (.ref a :: vs)) Q h1) h)
    (hfew : ((backTo pos (starEach (e :: r) env)).all (fun x => !x.1) && (backToKw pos (keywordEach [] env)).all (fun x => x.1.isSome) && decide ((e :: r).length + ([] : List Keyword).length + (if ([] : List Keyword).isEmpty then 0 else 1) < 30)) = true := by rfl)
    (hbase : attributeBase o name env (eval o env) = eval o env := by rfl) (hline : (apos.endLine == pos.line) = true := by rfl)
    (he : starEach (e :: r) env = (false, eval e env) :: starEach r env := by rfl) (hp : (backTo pos (starEach r env)).any (·.1) = false := by rfl) :
    Wp C A (eval (.Call (.Attribute o name apos) (e :: r) [] pos) env) Q h :=
  w_mcall (x.useR ⟨_, _, mt_list ol sl ty, w_callWith y he hp⟩) hfew hbase hline
end
theorem boot_chr : bootBuiltins (Str.ofString "chr") = some (.builtin "chr") := by kernel_rfl
theorem boot_int : bootBuiltins (Str.ofString "int") = some (.type "int") := by kernel_rfl
theorem boot_sum : bootBuiltins (Str.ofString "sum") = some (.builtin "sum") := by kernel_rfl
theorem boot_list : bootBuiltins (Str.ofString "list") = some (.type "list") := by kernel_rfl
theorem boot_sorted : bootBuiltins (Str.ofString "sorted") = some (.builtin "sorted") := by kernel_rfl
theorem boot_iter : bootBuiltins (Str.ofString "iter") = some (.builtin "iter") := by kernel_rfl
theorem boot_min : bootBuiltins (Str.ofString "min") = some (.builtin "min") := by kernel_rfl
theorem boot_max : bootBuiltins (Str.ofString "max") = some (.builtin "max") := by kernel_rfl
theorem boot_object : bootBuiltins (Str.ofString "object") = some (.type "object") := by kernel_rfl
theorem boot_zip : bootBuiltins (Str.ofString "zip") = some (.type "zip") := by kernel_rfl

structure New (h h' : Heap) (ds : List (Addr × AO)) : Prop where
  keep : Keeps h h'
  own : ∀ p ∈ ds, Own h' p.1 p.2
  fresh : ∀ p ∈ ds, h.get? p.1 = none
  nd : (ds.map (·.1)).Nodup
section
variable {C : Cx} {A : Around} {h h₀ h' : Heap} {env : Env} {l l' : List (Str × Option PV)} {cs cs' ds : List (Addr × AO)} {K : Frag}
theorem St.new (Z : St env h l cs h') : New h h' cs := ⟨Z.keep, Z.own, Z.fresh, (List.nodup_cons.mp Z.nd).2⟩
theorem New.one {a : Addr} {x : AO} (k : Keeps h h') (o : Own h' a x) (f : h.get? a = none) : New h h' [(a, x)] :=
  ⟨k, fun p hp => by rcases List.mem_singleton.mp hp with rfl; exact o, fun p hp => by rcases List.mem_singleton.mp hp with rfl; exact f, by simp⟩
theorem New.sub (N : New h h' ds) (s : cs.Sublist ds) : New h h' cs := ⟨N.keep, fun p hp => N.own p (s.subset hp), fun p hp => N.fresh p (s.subset hp), N.nd.sublist (s.map _)⟩
theorem St.adopt (Z : St env h₀ l cs h) (N : New h h' ds) : St env h₀ l (ds ++ cs) h' := by
  have Z' := Z.keeps N.keep
  refine ⟨Z'.loc, Z'.lk, Z'.keep, Z'.low, fun p hp => ?_, fun p hp => ?_, ?_⟩
  · rcases List.mem_append.mp hp with hp | hp
    · exact N.own p hp
    · exact Z'.own p hp
  · rcases List.mem_append.mp hp with hp | hp
    · cases q : h₀.get? p.1 with
      | none => rfl
      | some o => have := N.fresh p hp; rw [Z.keep _ _ q] at this; cases this
    · exact Z'.fresh p hp
  · have nd := List.nodup_cons.mp Z.nd
    have ne : ∀ p ∈ ds, ∀ b o, h.get? b = some o → b ≠ p.1 := fun p hp b o e z => by rw [z, N.fresh p hp] at e; cases e
    rw [List.map_append]
    refine List.nodup_cons.mpr ⟨fun m => ?_, List.nodup_append.mpr ⟨N.nd, nd.2, fun a ha b hb => ?_⟩⟩
    · rcases List.mem_append.mp m with m | m
      · obtain ⟨p, hp, e⟩ := List.mem_map.mp m
        obtain ⟨o, eo⟩ := get_locals Z
        exact ne p hp _ _ eo e.symm
      · exact nd.1 m
    · obtain ⟨p, hp, rfl⟩ := List.mem_map.mp ha
      obtain ⟨q, hq, rfl⟩ := List.mem_map.mp hb
      obtain ⟨o, eo, _⟩ := Z.own q hq
      exact fun e => ne p hp _ _ eo e.symm
theorem St.perm (Z : St env h₀ l cs h) (p : cs.Perm cs') : St env h₀ l cs' h :=
  ⟨Z.loc, Z.lk, Z.keep, Z.low, fun q hq => Z.own q (p.mem_iff.mpr hq), fun q hq => Z.fresh q (p.mem_iff.mpr hq), ((p.map _).cons _).nodup_iff.mp Z.nd⟩
theorem St.sub (Z : St env h₀ l cs h) (s : cs'.Sublist cs) : St env h₀ l cs' h :=
  ⟨Z.loc, Z.lk, Z.keep, Z.low, fun q hq => Z.own q (s.subset hq), fun q hq => Z.fresh q (s.subset hq), Z.nd.sublist ((s.map _).cons_cons _)⟩
theorem cp_countloopB {a : Addr} {ps : List PV} {q : PV} {v : Value} {bs : List Bool} {Q : Flow → Heap → Prop} (o : Own h a (.list ps)) (hv : pv v = q) (hl : bs.length = ps.length) (he : ∀ (i : Nat) (p : PV) (b : Bool), ps[i]? = some p → bs[i]? = some b → Eqb C A.in1 h p q b) :
    ∀ (f i n : Nat), i + f = ps.length → (∀ w, pv w = .int ((n + (bs.drop i).count true : Nat) : Int) → Q (.ret w) h) → Cp C A (.builtin "list.count.loop" ⟨[.ref a, v, rawInt i, rawInt n], []⟩) Q h := by
  obtain ⟨vs, n0, eo, ev⟩ := own_list o
  have it1 : ∀ (R : Array Value → Heap → Prop), R vs h → Wp C A.in1 (Builtin.List.listItems (.ref a)) R h := fun R k t => listItems_at eo rfl ⟨_, _, rfl, k⟩
  intro f
  induction f with
  | zero =>
    intro i n hi k
    refine cp_builtin plain_count_loop' entry_count_loop' ?_
    unfold Builtin.«list.count.loop»
    dsimp only [rawInt]
    refine Wp.bind (it1 _ ?_)
    rw [Int.toNat_natCast]
    rcases get_pv ev i with ⟨w, p, hw, hp, _⟩ | ⟨hw, hp⟩
    · have := (List.getElem?_eq_some_iff.mp hp).1; lia
    rw [hw]
    dsimp only
    rw [List.drop_of_length_le (by lia)] at k
    exact Wp.bind (w_mkInt fun w hw => Wp.pure (k w (by rw [hw]; simp)))
  | succ f ih =>
    intro i n hi k
    refine cp_builtin plain_count_loop' entry_count_loop' ?_
    unfold Builtin.«list.count.loop»
    dsimp only [rawInt]
    refine Wp.bind (it1 _ ?_)
    rw [Int.toNat_natCast]
    rcases get_pv ev i with ⟨w, p, hw, hp, pvp⟩ | ⟨hw, hp⟩
    · rw [hw]
      dsimp only
      obtain ⟨b, hb⟩ : ∃ b, bs[i]? = some b := ⟨bs[i]'(by lia), List.getElem?_eq_getElem (by lia)⟩
      rw [drop_get hb, List.count_cons] at k
      refine Wp.bind (he i p b hp hb w v pvp hv _ ?_)
      rw [show (i : Int) + 1 = ((i + 1 : Nat) : Int) by exact (Int.natCast_succ _).symm]
      cases b with
      | true =>
        rw [if_pos rfl]
        refine Wp.pure ⟨plainId_quiet plain_count_loop' _, ?_⟩
        rw [show (n : Int) + 1 = ((n + 1 : Nat) : Int) by exact (Int.natCast_succ _).symm]
        refine ih (i + 1) (n + 1) (by lia) fun w hw => k w ?_
        rw [hw]; simp; lia
      | false =>
        rw [if_neg Bool.false_ne_true]
        refine Wp.pure ⟨plainId_quiet plain_count_loop' _, ?_⟩
        refine ih (i + 1) n (by lia) fun w hw => k w ?_
        rw [hw]; simp
    · have := List.getElem?_eq_none_iff.mp hp; lia
theorem w_countB {a : Addr} {ps : List PV} {q : PV} {v : Value} {bs : List Bool} {Q : Value → Heap → Prop} (o : Own h a (.list ps)) (hv : pv v = q) (hl : bs.length = ps.length) (he : ∀ (i : Nat) (p : PV) (b : Bool), ps[i]? = some p → bs[i]? = some b → Eqb C A.in1 h p q b) (k : ∀ w, pv w = .int ((bs.count true : Nat) : Int) → Q w h) :
    Wp C A (call (.builtin "list.count") [.ref a, v]) Q h := by
  obtain ⟨vs, n0, eo, ev⟩ := own_list o
  refine Wp.call (cp_call_slot (self := .ref a) PySem.F.slot_list_count (fun t => ⟨_, eo, rfl⟩) PySem.F.entry_list_count (PySem.F.args_list_count_2 _ _) ?_)
  show Wp C A.in1 (again (.builtin "list.count.loop" ⟨[.ref a, v, rawInt 0, rawInt 0], []⟩)) _ h
  refine Wp.pure ⟨plainId_quiet plain_count_loop' _, ?_⟩
  exact cp_countloopB o hv hl he ps.length 0 0 (by lia) fun w hw => ⟨w, rfl, k w (by simpa using hw)⟩
theorem eqL_ints : ∀ {xs ys : List Int}, eqL eqPV (xs.map PV.int) (ys.map PV.int) = decide (xs = ys)
  | [], [] => rfl
  | [], _ :: _ => rfl
  | _ :: _, [] => rfl
  | x :: xs, y :: ys => by
    show (decide (x = y) && eqL eqPV (xs.map PV.int) (ys.map PV.int)) = _
    rw [eqL_ints, ← Bool.decide_and]
    exact decide_eq_decide.mpr (Iff.of_eq (List.cons.injEq ..).symm)
theorem eqb_intsList {a b : Addr} {xs ys : List Int} (hu : A.units < cLine) (o1 : Own h a (.list (xs.map PV.int))) (o2 : Own h b (.list (ys.map PV.int))) : Eqb C A h (.ref a) (.ref b) (decide (xs = ys)) := by
  refine eqb_of ?_ rfl (fun e => ?_)
  · rw [← eqL_ints]
    refine c_eq_list hu o1 o2 fun p hp q hq => ?_
    obtain ⟨i, _, rfl⟩ := List.mem_map.mp hp
    obtain ⟨j, _, rfl⟩ := List.mem_map.mp hq
    exact eqb_int
  · cases e
    obtain ⟨vs, n, e1, v1⟩ := own_list o1
    obtain ⟨ws, m, e2, v2⟩ := own_list o2
    rw [e1] at e2
    cases e2
    have : xs.map PV.int = ys.map PV.int := v1.symm.trans v2
    have inj : ∀ {xs ys : List Int}, xs.map PV.int = ys.map PV.int → xs = ys := by
      intro xs
      induction xs with
      | nil => intro ys h; cases ys; rfl; simp at h
      | cons x xs ih =>
        intro ys h
        cases ys with
        | nil => simp at h
        | cons y ys => simp only [List.map_cons, List.cons.injEq, PV.int.injEq] at h; rw [h.1, ih h.2]
    simpa using inj this
theorem c_ne_intsList {a b : Addr} {xs ys : List Int} (hu : A.units < cLine) (o1 : Own h a (.list (xs.map PV.int))) (o2 : Own h b (.list (ys.map PV.int))) : Cm C A h .NotEq (.ref a) (.ref b) (!decide (xs = ys)) := by
  rw [← eqL_ints]
  refine c_ne_list hu o1 o2 fun p hp q hq => ?_
  obtain ⟨i, _, rfl⟩ := List.mem_map.mp hp
  obtain ⟨j, _, rfl⟩ := List.mem_map.mp hq
  exact eqb_int
end

theorem find_1310 (t u : Tok) : Builtin.«bytes.find» ⟨[.bytes #[13, 10] t, .bytes #[10] u], []⟩ = retInt 1 := by kernel_rfl
theorem find_1013 (t u : Tok) : Builtin.«bytes.find» ⟨[.bytes #[10, 13] t, .bytes #[10] u], []⟩ = retInt 0 := by kernel_rfl
theorem slot_bfind : Slot "bytes" (Str.ofString "find") "bytes.find" :=
  .of (owner := "bytes") (n := "find") (by rw [typeLookup_type, builtinLookup_eq_fast]; kernel_rfl) (by decide +kernel) (by decide +kernel) (by decide +kernel)
    (by first | exact .inl (by decide +kernel) | exact .inr (by decide +kernel)) (by rw [isSubtype_type]; kernel_rfl)
theorem type_bfind : typeOf (.builtin "bytes.find") = Pure.pure (.type "method_descriptor") := by show builtinType _ = _; rw [builtinType_eq_fast]; kernel_rfl
theorem entry_bfind : entryFor table "bytes.find" = some Builtin.«bytes.find» := entryFor_of_tree (by kernel_rfl)
theorem args_bfind (a b : Value) : argsOk "bytes.find" ⟨[a, b], []⟩ := by unfold argsOk; kernel_rfl
noncomputable abbrev bFind : Builtin := Builtin.«bytes.find»
section
variable {C : Cx} {A : Around} {h h₀ h' : Heap} {env : Env} {l l' : List (Str × Option PV)} {cs cs' ds : List (Addr × AO)} {K : Frag}
theorem w_retInt {i : Int} {Q : PySem.Fin → Heap → Prop} (k : ∀ v, pv v = .int i → Q (.done (.ret v)) h) : Wp C A (retInt i) Q h := Wp.bind (w_mkInt fun v hv => Wp.pure (k v hv))
theorem w_bfind {u v : Value} {a : Array UInt8} {i : Int} {Q : Value → Heap → Prop} (hu : pv u = .bytes a) (hv : pv v = .bytes #[10]) (hf : ∀ t u, bFind ⟨[.bytes a t, .bytes #[10] u], []⟩ = retInt i) (k : ∀ w, pv w = .int i → Q w h) : Wp C A (call (.builtin "bytes.find") [u, v]) Q h := by
  obtain ⟨t, rfl⟩ := pv_bytes hu
  obtain ⟨s, rfl⟩ := pv_bytes hv
  refine w_slot slot_bfind (fun t => typeIs_bytes _ _ _) entry_bfind (args_bfind _ _) ?_
  show Wp C A.in1 (bFind _) _ _
  rw [hf]
  exact w_retInt fun w hw => ⟨w, rfl, k w hw⟩
theorem x_augW {x : Str} {p1 pos : Pos} {op : Operator} {e : Expr} {rest : List Stmt} {p : PV} {Q : Flow → Heap → Prop} (Z : St env h₀ l cs h) (a : At l x p)
    (y : Wp C A (eval e env) (fun v h1 => ∃ q r l' cs1, pv v = q ∧ St env h₀ l cs1 h1 ∧ (∀ u v, pv u = p → pv v = q → ∀ R : Value → Heap → Prop, (∀ w, pv w = r → R w h1) → Wp C A (inplaceOp op u v) R h1) ∧ Put x r l l' ∧ ∀ h2, St env h₀ l' cs1 h2 → Wp C A (execs rest env) Q h2) h) :
    Wp C A (execs (.AugAssign (.Name x p1) op e pos :: rest) env) Q h :=
  x_cons fun t => wpAny_AugAssign_Name ((w_load Z a (Q := fun v h' => pv v = p ∧ h = h') fun v hv => ⟨hv, rfl⟩).seq t fun u _ t1 q1 => by
    obtain ⟨hu, rfl⟩ := q1
    exact y.seq t1 fun v h1 t2 q2 => by
      obtain ⟨q, r, l', cs1, hv, Z1, hop, hp, k⟩ := q2
      exact (hop u v hu hv (fun w h' => pv w = r ∧ h1 = h') fun w hw => ⟨hw, rfl⟩).seq t2 fun w _ t3 q3 => by
        obtain ⟨hw, rfl⟩ := q3
        exact (w_store Z1 hw hp k).seq t3 fun _ _ _ q => ⟨_, _, rfl, q⟩)
theorem b_add {u v : Value} {i j : Int} {Q : Value → Heap → Prop} (hu : pv u = .int i) (hv : pv v = .int j) (k : ∀ w, pv w = .int (i + j) → Q w h) : Wp C A (binaryOp .Add u v) Q h := fun t => by
  obtain ⟨_, rfl⟩ := pv_int hu; obtain ⟨_, rfl⟩ := pv_int hv
  exact add_int ⟨_, _, rfl, k _ rfl⟩
theorem b_sub {u v : Value} {i j : Int} {Q : Value → Heap → Prop} (hu : pv u = .int i) (hv : pv v = .int j) (k : ∀ w, pv w = .int (i - j) → Q w h) : Wp C A (binaryOp .Sub u v) Q h := fun t => by
  obtain ⟨_, rfl⟩ := pv_int hu; obtain ⟨_, rfl⟩ := pv_int hv
  exact sub_int ⟨_, _, rfl, k _ rfl⟩
theorem b_mul {u v : Value} {i j : Int} {Q : Value → Heap → Prop} (hu : pv u = .int i) (hv : pv v = .int j) (hm : IntMulOk i j) (k : ∀ w, pv w = .int (i * j) → Q w h) : Wp C A (binaryOp .Mult u v) Q h := fun t => by
  obtain ⟨_, rfl⟩ := pv_int hu; obtain ⟨_, rfl⟩ := pv_int hv
  exact PyProof.Rows.mul_int ⟨_, _, rfl, k _ rfl⟩ hm
theorem mt_bytesR {name : Str} {id : String} {b : Array UInt8} {ov : Value} (hv : pv ov = .bytes b) (sl : Slot "bytes" name id) (ty : typeOf (.builtin id) = Pure.pure (.type "method_descriptor")) : Mt C A h ov name (.builtin id) [ov] := by
  obtain ⟨t, rfl⟩ := pv_bytes hv
  exact mt_bytes sl ty
end

noncomputable def KeyOk (C : Cx) (n : Nat) (base : Heap) (f : Value) (ps : List PV) (kv : PV → PV) : Prop :=
  ∀ (A : Around) (h : Heap) (u : Value) (p : PV), Rm n A → Keeps base h → p ∈ ps → pv u = p → ∀ Q : Value → Heap → Prop, (∀ w h', Keeps h h' → pv w = kv p → Q w h') → Wp C A (call f [u]) Q h
noncomputable def CmpOk (C : Cx) (n : Nat) (base : Heap) (op : CmpOp) (ps qs : List PV) (lt : PV → PV → Bool) : Prop :=
  ∀ (A : Around) (h : Heap), Rm n A → Keeps base h → ∀ p ∈ ps, ∀ q ∈ qs, Cm C A h op p q (lt p q)
noncomputable def minGo (better : PV → PV → Bool) : PV → List PV → PV
  | b, [] => b
  | b, p :: ps => minGo better (if better p b then p else b) ps
theorem minGo_c {better : PV → PV → Bool} {b p : PV} {ps : List PV} : minGo better b (p :: ps) = minGo better (if better p b then p else b) ps := rfl
noncomputable def minOr (better : PV → PV → Bool) (b : PV) : List PV → PV
  | [] => b
  | p :: r => minGo better p r
section
variable {C : Cx} {A : Around} {h h₀ h' : Heap} {env : Env} {l l' : List (Str × Option PV)} {cs cs' ds : List (Addr × AO)} {K : Frag}
theorem Wp.tryCatch {α : Type} {m : Sem α} {f : Value → Sem α} {Q : α → Heap → Prop} (x : Wp C A m Q h) : Wp C A (tryCatch m f) Q h := fun t =>
  wpAny_tryCatch (wpAny_mono (x t) (fun _ _ q => q) fun _ _ z => z.elim)
theorem Wp.letGo {vs ks : List Value} {Q : Unit → Heap → Prop} (k : Q () h) : Wp C A (PySem.letGo vs ks) Q h := fun t => wpAny_letGo ⟨_, _, rfl, k⟩
theorem Wp.truthy_bool {b : Bool} {Q : Bool → Heap → Prop} (k : Q b h) : Wp C A (truthy (.bool b)) Q h := fun t => wpAny_truthy_bool ⟨_, _, rfl, k⟩
theorem w_kws_nil {pos : Pos} {Q : List Value → Heap → Prop} (k : Q [] h) : Wp C A (evalAll ((backToKw pos (keywordEach [] env)).map (·.2))) Q h := fun t => kws_nil ⟨_, _, rfl, k⟩
theorem w_kws_cons {nm : Str} {e : Expr} {kp pos : Pos} {rest : List Keyword} {Q : List Value → Heap → Prop} (x : Wp C A (eval e env) (fun v h1 => Wp C A (evalAll ((backToKw pos (keywordEach rest env)).map (·.2))) (fun vs h2 => Q (v :: vs) h2) h1) h) :
    Wp C A (evalAll ((backToKw pos (keywordEach (⟨some nm, e, kp⟩ :: rest) env)).map (·.2))) Q h := fun t => kws_cons (x.seq t fun _ _ t1 q => q.seq t1 fun _ _ _ q => ⟨_, _, rfl, q⟩)
theorem w_call_bi_kw {x : Str} {p0 pos : Pos} {e : Expr} {r : List Expr} {kws : List Keyword} {id : String} {Q : Value → Heap → Prop} (g : Gl C A env h x (.builtin id))
    (y : Wp C A (spliced (backTo pos (starEach (e :: r) env))) (fun vs h1 => Wp C A (evalAll ((backToKw pos (keywordEach kws env)).map (·.2))) (fun ks h2 => Wp C A (call (.builtin id) vs (((backToKw pos (keywordEach kws env)).filterMap (·.1)).zip ks)) Q h2) h1) h)
    (he : backTo pos (starEach (e :: r) env) = (false, eval e env) :: backTo pos (starEach r env) := by rfl)
    (hplain : (backTo pos (starEach (e :: r) env)).any (·.1) = false := by rfl)
    (hall : (backToKw pos (keywordEach kws env)).all (·.1.isSome) = true := by rfl)
    (hkw : (backToKw pos (keywordEach kws env)).any (·.1.isNone) = false := by rfl) :
    Wp C A (eval (.Call (.Name x p0) (e :: r) kws pos) env) Q h := fun t => by
  refine wpAny_Call_Name_kw ((g p0 (fun v h1 => v = .builtin id ∧ h = h1) ⟨rfl, rfl⟩).seq t fun v _ t1 q1 => ?_)
  obtain ⟨rfl, rfl⟩ := q1
  exact callWith_kw (y.seq t1 fun _ _ t2 q => q.seq t2 fun _ _ t3 q => q t3) he hplain hall hkw
theorem w_call_function {id : String} {b : Builtin} {args : List Value} {kw : List (Str × Value)} {Q : Value → Heap → Prop} (hk : builtinKind id = none) (hp : plainId id = true) (hb : entryFor table id = some b) (ha : argsOk id ⟨args, kw⟩)
    (x : Wp C A.in1 (b ⟨args, kw⟩) (fun fin h' => match fin with | .done f => ∃ v, f = .ret v ∧ Q v h' | .again c => c.quiet = true ∧ Cp C A c (fun f h' => ∃ v, f = .ret v ∧ Q v h') h') h) : Wp C A (call (.builtin id) args kw) Q h := by
  refine Wp.call fun t => ?_
  have hc : checkBuiltinCall id ⟨args, kw⟩ = Pure.pure () := by
    simp only [checkBuiltinCall, hk]
    cases hsig : Manifest.signature? id with
    | none => rfl
    | some sig =>
      have ha' : Bind.checkArgs id sig ⟨args, kw⟩ = Pure.pure () := by simpa only [argsOk, hsig] using ha
      simp only [ha']
  refine codeAny_call_builtin hp hb (wpAny_of_eq hc (x.seq t fun fin h' t' q => ?_))
  cases fin with
  | done f => exact ⟨_, _, _, rfl, rfl, q⟩
  | again c => exact ⟨q.1, q.2 t'⟩

theorem str_minloop : (toString "min" ++ toString ".loop") = "min.loop" := by decide
theorem cp_minloop {it a best kf : Addr} {kw : List (Str × Value)} {ps : List PV} {kv : PV → PV} {lt : PV → PV → Bool} {n : Nat} {Q : Flow → Heap → Prop} (hA : Rm (n + 1) A) (o : Own h₀ a (.list ps))
    (hk : KeyOk C n h₀ (.ref kf) ps kv) (hl : CmpOk C n h₀ .Lt (ps.map kv) (ps.map kv) lt)
    (k : ∀ v b h', St env h₀ l ((best, .list []) :: cs) h' → pv v = b → (∃ p r, ps = p :: r ∧ b = minGo (fun p q => lt (kv p) (kv q)) p r) → Q (.ret v) h') :
    ∀ (f i : Nat) (h : Heap) (st : List PV), i + f = ps.length → (i = 0 ∧ 0 < f ∧ st = [] ∨ ∃ p r, ps = p :: r ∧ i ≠ 0 ∧ (∃ b, st = [b, kv b] ∧ b ∈ ps ∧ minGo (fun p q => lt (kv p) (kv q)) b (ps.drop i) = minGo (fun p q => lt (kv p) (kv q)) p r)) →
      St env h₀ l ((it, lit a i) :: (best, .list st) :: cs) h → Cp C A (.builtin "min.loop" ⟨[.ref it, .ref kf, .ref best], kw⟩) Q h := by
  have hk1 := hA.in1
  have hplain : plainId "min.loop" = true := by decide +kernel
  intro f
  induction f with
  | zero =>
    intro i h st hi hst Z
    rcases hst with ⟨_, hf, _⟩ | ⟨p, r, hp, hi0, b, rfl, hb, hm⟩
    · lia
    refine cp_builtin hplain PySem.F.entry_min_loop ?_
    obtain ⟨vs, m, eo, ev⟩ := own_list (Z.get (.there .here))
    show Wp C A.in1 (seqItems? (.ref best) >>= _) _ h
    refine Wp.bind ?_
    unfold seqItems?
    refine Wp.bind (Wp.load eo (Wp.pure ?_))
    refine Wp.bind (Wp.tryCatch (next_list_end hk1.h Z (Own.keeps Z.keep o) (by lia) fun h1 Z1 => ?_))
    obtain ⟨v1, v2, e, e1, e2⟩ : ∃ v1 v2, vs.toList = [v1, v2] ∧ pv v1 = b ∧ pv v2 = kv b := by
      rcases hv : vs.toList with _ | ⟨v1, _ | ⟨v2, _ | ⟨v3, r⟩⟩⟩ <;> rw [hv] at ev <;> simp at ev
      exact ⟨v1, v2, rfl, ev.1, ev.2⟩
    dsimp only [Option.getD_some]
    rw [e]
    dsimp only
    refine Wp.bind (w_updSeq Z1 .here .here (ps' := []) (fun _ _ => rfl) (by first | decide | simp [sizeLine]) (by simp) fun h2 Z2 => ?_)
    refine Wp.bind (Wp.letGo (Wp.pure ?_))
    rw [List.drop_of_length_le (by lia)] at hm
    exact k v1 b h2 Z2 e1 ⟨p, r, hp, hm⟩
  | succ f ih =>
    intro i h st hi hst Z
    refine cp_builtin hplain PySem.F.entry_min_loop ?_
    obtain ⟨vs, m, eo, ev⟩ := own_list (Z.get (.there .here))
    obtain ⟨p, hp⟩ : ∃ p, ps[i]? = some p := ⟨ps[i]'(by lia), List.getElem?_eq_getElem (by lia)⟩
    have hpm := List.mem_of_getElem? hp
    show Wp C A.in1 (seqItems? (.ref best) >>= _) _ h
    refine Wp.bind ?_
    unfold seqItems?
    refine Wp.bind (Wp.load eo (Wp.pure ?_))
    refine Wp.bind (Wp.tryCatch (next_list Z .here .here (Own.keeps Z.keep o) hp fun v h1 hv Z1 => ?_))
    dsimp only [Option.getD_some]
    rw [str_minloop]
    refine Wp.bind (Wp.tryCatch (Wp.holding (hk A.in1 h1 v p hk1 Z1.keep hpm hv _ fun w h2 kp hw => ?_)))
    have Z2 := Z1.keeps kp
    have go : ∀ (b : PV) (h' : Heap), b ∈ ps → minGo (fun p q => lt (kv p) (kv q)) b (ps.drop (i + 1)) = minOr (fun p q => lt (kv p) (kv q)) b ps → St env h₀ l ((it, lit a (i + 1)) :: (best, .list [b, kv b]) :: cs) h' →
        Cp C A (.builtin "min.loop" ⟨[.ref it, .ref kf, .ref best], kw⟩) Q h' := fun b h' hb hm Z' => by
      obtain ⟨p0, r0, hps⟩ : ∃ p0 r0, ps = p0 :: r0 := by cases ps with | nil => simp at hb | cons p0 r0 => exact ⟨p0, r0, rfl⟩
      refine ih (i + 1) h' [b, kv b] (by lia) (.inr ⟨p0, r0, hps, by lia, b, rfl, hb, ?_⟩) Z'
      rw [hm, hps]; rfl
    rcases hst with ⟨hi0, hf, rfl⟩ | ⟨p0, r0, hps, hi0, b, rfl, hb, hm⟩
    · have e : vs.toList = [] := by simpa using ev
      rw [e]
      dsimp only
      refine Wp.bind (w_updSeq Z2 (.there .here) (.there .here) (ps' := [p, kv p]) (fun _ _ => by simp [hv, hw]) (by first | decide | simp [sizeLine]) (by first | decide | simp [sizeLine]) fun h3 Z3 => Wp.pure ⟨plainId_quiet hplain _, ?_⟩)
      refine go p h3 hpm ?_ Z3
      subst hi0
      cases ps with
      | nil => simp at hp
      | cons p0 r0 => simp at hp; subst hp; rfl
    · obtain ⟨v1, v2, e, e1, e2⟩ : ∃ v1 v2, vs.toList = [v1, v2] ∧ pv v1 = b ∧ pv v2 = kv b := by
        rcases hv : vs.toList with _ | ⟨v1, _ | ⟨v2, _ | ⟨v3, r⟩⟩⟩ <;> rw [hv] at ev <;> simp at ev
        exact ⟨v1, v2, rfl, ev.1, ev.2⟩
      rw [drop_get hp, minGo_c] at hm
      rw [e]
      dsimp only
      refine Wp.bind (Wp.tryCatch (Wp.holding (Wp.bind (hl A.in1 h2 hk1 Z2.keep (kv p) (List.mem_map.mpr ⟨p, hpm, rfl⟩) (kv b) (List.mem_map.mpr ⟨b, hb, rfl⟩) w v2 hw e2 _ (Wp.bind (Wp.holding (Wp.truthy_bool (Wp.bind (Wp.letGo (Wp.pure ?_))))))))))
      cases hlt : lt (kv p) (kv b) with
      | true =>
        rw [if_pos rfl]
        rw [hlt, if_pos rfl] at hm
        refine Wp.bind (w_updSeq Z2 (.there .here) (.there .here) (ps' := [p, kv p]) (fun _ _ => by simp [hv, hw]) (by first | decide | simp [sizeLine]) (by first | decide | simp [sizeLine]) fun h3 Z3 => Wp.bind (Wp.letGo (Wp.pure ⟨plainId_quiet hplain _, ?_⟩)))
        refine go p h3 hpm ?_ Z3
        rw [hm, hps]; rfl
      | false =>
        rw [if_neg Bool.false_ne_true]
        rw [hlt, if_neg Bool.false_ne_true] at hm
        refine Wp.bind (Wp.letGo (Wp.pure ⟨plainId_quiet hplain _, ?_⟩))
        refine go b h2 hb ?_ Z2
        rw [hm, hps]; rfl
theorem args_min_dk (a b c : Value) : argsOk "min" ⟨[a], [("default", b), ("key", c)]⟩ := by unfold argsOk; kernel_rfl
theorem w_min_dk {it a kf : Addr} {d : Value} {ps : List PV} {kv : PV → PV} {lt : PV → PV → Bool} {n : Nat} {p : PV} {r : List PV} {Q : Value → Heap → Prop} (hA : Rm (n + 1) A) (Z : St env h₀ l ((it, lit a 0) :: cs) h) (o : Own h₀ a (.list ps)) (hps : ps = p :: r)
    (hk : KeyOk C n h₀ (.ref kf) ps kv) (hl : CmpOk C n h₀ .Lt (ps.map kv) (ps.map kv) lt)
    (k : ∀ v h', St env h₀ l cs h' → pv v = minGo (fun p q => lt (kv p) (kv q)) p r → Q v h') :
    Wp C A (call (.builtin "min") [.ref it] [("default", d), ("key", .ref kf)]) Q h := by
  refine w_call_function (by decide +kernel) (by decide +kernel) PySem.F.entry_min (args_min_dk _ _ _) ?_
  have e : Builtin.«min» ⟨[.ref it], [("default", d), ("key", .ref kf)]⟩ = (do
      let i ← pyIter (.ref it)
      again (.builtin "min.loop" ⟨[i, .ref kf, ← newList []], [("default", d)]⟩)) := by kernel_rfl
  rw [e]
  refine Wp.bind (w_iter_lit (Z.get .here) ?_)
  refine Wp.bind (w_newList Z (by decide) fun best h1 Z1 => Wp.pure ⟨plainId_quiet (by decide +kernel) _, ?_⟩)
  refine cp_minloop hA o hk hl (fun v b h' Z' hv hb => ⟨v, rfl, ?_⟩) ps.length 0 h1 [] (by lia) (.inl ⟨rfl, by rw [hps]; simp, rfl⟩) Z1.swap
  obtain ⟨p', r', e1, e2⟩ := hb
  rw [hps] at e1
  cases e1
  exact k v h' Z'.drop (hv.trans e2)

theorem str_maxloop : (toString "max" ++ toString ".loop") = "max.loop" := by decide
theorem cp_maxloop {it a best kf : Addr} {kw : List (Str × Value)} {ps : List PV} {kv : PV → PV} {lt : PV → PV → Bool} {n : Nat} {Q : Flow → Heap → Prop} (hA : Rm (n + 1) A) (o : Own h₀ a (.list ps))
    (hk : KeyOk C n h₀ (.ref kf) ps kv) (hl : CmpOk C n h₀ .Gt (ps.map kv) (ps.map kv) lt)
    (k : ∀ v b h', St env h₀ l ((best, .list []) :: cs) h' → pv v = b → (∃ p r, ps = p :: r ∧ b = minGo (fun p q => lt (kv p) (kv q)) p r) → Q (.ret v) h') :
    ∀ (f i : Nat) (h : Heap) (st : List PV), i + f = ps.length → (i = 0 ∧ 0 < f ∧ st = [] ∨ ∃ p r, ps = p :: r ∧ i ≠ 0 ∧ (∃ b, st = [b, kv b] ∧ b ∈ ps ∧ minGo (fun p q => lt (kv p) (kv q)) b (ps.drop i) = minGo (fun p q => lt (kv p) (kv q)) p r)) →
      St env h₀ l ((it, lit a i) :: (best, .list st) :: cs) h → Cp C A (.builtin "max.loop" ⟨[.ref it, .ref kf, .ref best], kw⟩) Q h := by
  have hk1 := hA.in1
  have hplain : plainId "max.loop" = true := by decide +kernel
  intro f
  induction f with
  | zero =>
    intro i h st hi hst Z
    rcases hst with ⟨_, hf, _⟩ | ⟨p, r, hp, hi0, b, rfl, hb, hm⟩
    · lia
    refine cp_builtin hplain PySem.F.entry_max_loop ?_
    obtain ⟨vs, m, eo, ev⟩ := own_list (Z.get (.there .here))
    show Wp C A.in1 (seqItems? (.ref best) >>= _) _ h
    refine Wp.bind ?_
    unfold seqItems?
    refine Wp.bind (Wp.load eo (Wp.pure ?_))
    refine Wp.bind (Wp.tryCatch (next_list_end hk1.h Z (Own.keeps Z.keep o) (by lia) fun h1 Z1 => ?_))
    obtain ⟨v1, v2, e, e1, e2⟩ : ∃ v1 v2, vs.toList = [v1, v2] ∧ pv v1 = b ∧ pv v2 = kv b := by
      rcases hv : vs.toList with _ | ⟨v1, _ | ⟨v2, _ | ⟨v3, r⟩⟩⟩ <;> rw [hv] at ev <;> simp at ev
      exact ⟨v1, v2, rfl, ev.1, ev.2⟩
    dsimp only [Option.getD_some]
    rw [e]
    dsimp only
    refine Wp.bind (w_updSeq Z1 .here .here (ps' := []) (fun _ _ => rfl) (by first | decide | simp [sizeLine]) (by simp) fun h2 Z2 => ?_)
    refine Wp.bind (Wp.letGo (Wp.pure ?_))
    rw [List.drop_of_length_le (by lia)] at hm
    exact k v1 b h2 Z2 e1 ⟨p, r, hp, hm⟩
  | succ f ih =>
    intro i h st hi hst Z
    refine cp_builtin hplain PySem.F.entry_max_loop ?_
    obtain ⟨vs, m, eo, ev⟩ := own_list (Z.get (.there .here))
    obtain ⟨p, hp⟩ : ∃ p, ps[i]? = some p := ⟨ps[i]'(by lia), List.getElem?_eq_getElem (by lia)⟩
    have hpm := List.mem_of_getElem? hp
    show Wp C A.in1 (seqItems? (.ref best) >>= _) _ h
    refine Wp.bind ?_
    unfold seqItems?
    refine Wp.bind (Wp.load eo (Wp.pure ?_))
    refine Wp.bind (Wp.tryCatch (next_list Z .here .here (Own.keeps Z.keep o) hp fun v h1 hv Z1 => ?_))
    dsimp only [Option.getD_some]
    rw [str_maxloop]
    refine Wp.bind (Wp.tryCatch (Wp.holding (hk A.in1 h1 v p hk1 Z1.keep hpm hv _ fun w h2 kp hw => ?_)))
    have Z2 := Z1.keeps kp
    have go : ∀ (b : PV) (h' : Heap), b ∈ ps → minGo (fun p q => lt (kv p) (kv q)) b (ps.drop (i + 1)) = minOr (fun p q => lt (kv p) (kv q)) b ps → St env h₀ l ((it, lit a (i + 1)) :: (best, .list [b, kv b]) :: cs) h' →
        Cp C A (.builtin "max.loop" ⟨[.ref it, .ref kf, .ref best], kw⟩) Q h' := fun b h' hb hm Z' => by
      obtain ⟨p0, r0, hps⟩ : ∃ p0 r0, ps = p0 :: r0 := by cases ps with | nil => simp at hb | cons p0 r0 => exact ⟨p0, r0, rfl⟩
      refine ih (i + 1) h' [b, kv b] (by lia) (.inr ⟨p0, r0, hps, by lia, b, rfl, hb, ?_⟩) Z'
      rw [hm, hps]; rfl
    rcases hst with ⟨hi0, hf, rfl⟩ | ⟨p0, r0, hps, hi0, b, rfl, hb, hm⟩
    · have e : vs.toList = [] := by simpa using ev
      rw [e]
      dsimp only
      refine Wp.bind (w_updSeq Z2 (.there .here) (.there .here) (ps' := [p, kv p]) (fun _ _ => by simp [hv, hw]) (by first | decide | simp [sizeLine]) (by first | decide | simp [sizeLine]) fun h3 Z3 => Wp.pure ⟨plainId_quiet hplain _, ?_⟩)
      refine go p h3 hpm ?_ Z3
      subst hi0
      cases ps with
      | nil => simp at hp
      | cons p0 r0 => simp at hp; subst hp; rfl
    · obtain ⟨v1, v2, e, e1, e2⟩ : ∃ v1 v2, vs.toList = [v1, v2] ∧ pv v1 = b ∧ pv v2 = kv b := by
        rcases hv : vs.toList with _ | ⟨v1, _ | ⟨v2, _ | ⟨v3, r⟩⟩⟩ <;> rw [hv] at ev <;> simp at ev
        exact ⟨v1, v2, rfl, ev.1, ev.2⟩
      rw [drop_get hp, minGo_c] at hm
      rw [e]
      dsimp only
      refine Wp.bind (Wp.tryCatch (Wp.holding (Wp.bind (hl A.in1 h2 hk1 Z2.keep (kv p) (List.mem_map.mpr ⟨p, hpm, rfl⟩) (kv b) (List.mem_map.mpr ⟨b, hb, rfl⟩) w v2 hw e2 _ (Wp.bind (Wp.holding (Wp.truthy_bool (Wp.bind (Wp.letGo (Wp.pure ?_))))))))))
      cases hlt : lt (kv p) (kv b) with
      | true =>
        rw [if_pos rfl]
        rw [hlt, if_pos rfl] at hm
        refine Wp.bind (w_updSeq Z2 (.there .here) (.there .here) (ps' := [p, kv p]) (fun _ _ => by simp [hv, hw]) (by first | decide | simp [sizeLine]) (by first | decide | simp [sizeLine]) fun h3 Z3 => Wp.bind (Wp.letGo (Wp.pure ⟨plainId_quiet hplain _, ?_⟩)))
        refine go p h3 hpm ?_ Z3
        rw [hm, hps]; rfl
      | false =>
        rw [if_neg Bool.false_ne_true]
        rw [hlt, if_neg Bool.false_ne_true] at hm
        refine Wp.bind (Wp.letGo (Wp.pure ⟨plainId_quiet hplain _, ?_⟩))
        refine go b h2 hb ?_ Z2
        rw [hm, hps]; rfl
theorem args_max_dk (a b c : Value) : argsOk "max" ⟨[a], [("default", b), ("key", c)]⟩ := by unfold argsOk; kernel_rfl
theorem w_max_dk {it a kf : Addr} {d : Value} {ps : List PV} {kv : PV → PV} {lt : PV → PV → Bool} {n : Nat} {p : PV} {r : List PV} {Q : Value → Heap → Prop} (hA : Rm (n + 1) A) (Z : St env h₀ l ((it, lit a 0) :: cs) h) (o : Own h₀ a (.list ps)) (hps : ps = p :: r)
    (hk : KeyOk C n h₀ (.ref kf) ps kv) (hl : CmpOk C n h₀ .Gt (ps.map kv) (ps.map kv) lt)
    (k : ∀ v h', St env h₀ l cs h' → pv v = minGo (fun p q => lt (kv p) (kv q)) p r → Q v h') :
    Wp C A (call (.builtin "max") [.ref it] [("default", d), ("key", .ref kf)]) Q h := by
  refine w_call_function (by decide +kernel) (by decide +kernel) PySem.F.entry_max (args_max_dk _ _ _) ?_
  have e : Builtin.«max» ⟨[.ref it], [("default", d), ("key", .ref kf)]⟩ = (do
      let i ← pyIter (.ref it)
      again (.builtin "max.loop" ⟨[i, .ref kf, ← newList []], [("default", d)]⟩)) := by kernel_rfl
  rw [e]
  refine Wp.bind (w_iter_lit (Z.get .here) ?_)
  refine Wp.bind (w_newList Z (by decide) fun best h1 Z1 => Wp.pure ⟨plainId_quiet (by decide +kernel) _, ?_⟩)
  refine cp_maxloop hA o hk hl (fun v b h' Z' hv hb => ⟨v, rfl, ?_⟩) ps.length 0 h1 [] (by lia) (.inl ⟨rfl, by rw [hps]; simp, rfl⟩) Z1.swap
  obtain ⟨p', r', e1, e2⟩ := hb
  rw [hps] at e1
  cases e1
  exact k v h' Z'.drop (hv.trans e2)
end

noncomputable def kev {α : Type} (lt : Nat → Nat → Bool) : KasT α → α
  | .ret a => a
  | .ask i j k => kev lt (k (lt i j))
theorem kev_bind {α β : Type} (lt : Nat → Nat → Bool) (f : α → KasT β) : ∀ t : KasT α, kev lt (t.bind f) = kev lt (f (kev lt t))
  | .ret _ => rfl
  | .ask _ _ k => kev_bind lt f (k _)
structure WO (lt : Nat → Nat → Bool) : Prop where
  asymm : ∀ i j, lt i j = true → lt j i = false
  trans : ∀ i j k, lt j i = false → lt k j = false → lt k i = false
noncomputable def less (lt : Nat → Nat → Bool) (x y : Nat) : Prop := lt x y = true ∨ lt y x = false ∧ x < y
section
variable {lt : Nat → Nat → Bool} (W : WO lt)
include W
theorem WO.ltr {i j k : Nat} (h1 : lt i j = true) (h2 : lt k j = false) : lt i k = true := by
  cases q : lt i k with
  | true => rfl
  | false =>
    have := W.trans j k i h2 q
    rw [h1] at this; cases this
theorem WO.rtl {i j k : Nat} (h1 : lt j i = false) (h2 : lt j k = true) : lt i k = true := by
  cases q : lt i k with
  | true => rfl
  | false =>
    have := W.trans k i j q h1
    rw [h2] at this; cases this
theorem less_trans {x y z : Nat} (a : less lt x y) (b : less lt y z) : less lt x z := by
  rcases a with a | ⟨a, a'⟩ <;> rcases b with b | ⟨b, b'⟩
  · exact .inl (W.ltr a (W.asymm _ _ b))
  · exact .inl (W.ltr a b)
  · exact .inl (W.rtl a b)
  · exact .inr ⟨W.trans _ _ _ a b, by lia⟩
theorem less_le {x y : Nat} (a : less lt x y) : lt y x = false := by
  rcases a with a | a
  · exact W.asymm _ _ a
  · exact a.1
end
noncomputable abbrev at' (p : Array Nat) (k : Nat) : Nat := p.getD k 0
structure Pre (lt : Nat → Nat → Bool) (N : Nat) (p : Array Nat) (m : Nat) : Prop where
  size : p.size = N
  perm : p.toList.Perm (List.range N)
  rest : ∀ j, m ≤ j → j < N → at' p j = j
  low : ∀ j, j < m → j < N → at' p j < m
  srt : ∀ i j, i < j → j < m → less lt (at' p i) (at' p j)
theorem get_at {p : Array Nat} {k : Nat} (h : k < p.size) : p[k]? = some (at' p k) := by
  unfold at'; rw [Array.getD_eq_getD_getElem?, Array.getElem?_eq_getElem h]; rfl
theorem at_rev {p : Array Nat} {i j k : Nat} (hj : j ≤ p.size) (hk : k < p.size) : at' (kas_rev p i j) k = if i ≤ k ∧ k < j then at' p (i + j - 1 - k) else at' p k := by
  have := getElem?_mirror_all (xs := p) (i := i) hj k
  have h2 : (kas_rev p i j)[k]? = some (at' (kas_rev p i j) k) := get_at (by rw [kas_rev_size]; exact hk)
  unfold kas_rev at h2 ⊢
  rw [h2] at this
  split at this
  · rename_i c
    rw [if_pos c]
    rw [get_at (by lia)] at this
    exact Option.some.inj this
  · rename_i c
    rw [if_neg c]
    rw [get_at hk] at this
    exact Option.some.inj this
theorem rev_perm (p : Array Nat) (i j : Nat) : (kas_rev p i j).toList.Perm p.toList := Array.perm_iff_toList_perm.mp (mirror_perm p i j _)
theorem at_bubble {p : Array Nat} {src d k : Nat} (hs : src < p.size) (hd : d ≤ src) (hk : k < p.size) : at' (bubble p src d) k = if k = src - d then at' p src else if src - d < k ∧ k ≤ src then at' p (k - 1) else at' p k := by
  have := getElem?_bubble hs d hd k
  rw [get_at (by rw [bubble_size]; exact hk)] at this
  split at this
  · rename_i c
    rw [if_pos c]
    rw [get_at hs] at this
    exact Option.some.inj this
  · rename_i c
    rw [if_neg c]
    split at this
    · rename_i c2
      rw [if_pos c2]
      rw [get_at (by lia)] at this
      exact Option.some.inj this
    · rename_i c2
      rw [if_neg c2]
      rw [get_at hk] at this
      exact Option.some.inj this
section
variable {lt : Nat → Nat → Bool} (W : WO lt) {N : Nat}
include W
theorem Pre.step {p : Array Nat} {m : Nat} (P : Pre lt N p (m + 1)) (hn : m + 1 < N) (h : lt (at' p (m + 1)) (at' p m) = false) : Pre lt N p (m + 1 + 1) := by
  have en := P.rest (m + 1) (Nat.le_refl _) hn
  refine ⟨P.size, P.perm, fun j a b => P.rest j (Nat.le_of_succ_le a) b, fun j a b => ?_, fun i j a b => ?_⟩
  · rcases Nat.lt_or_ge j (m + 1) with z | z
    · exact Nat.lt_succ_of_lt (P.low j z b)
    · rw [P.rest j z b]; exact a
  · rcases Nat.lt_or_ge j (m + 1) with z | z
    · exact P.srt i j a z
    · obtain rfl : j = m + 1 := Nat.le_antisymm (Nat.le_of_lt_succ b) z
      have base : less lt (at' p m) (at' p (m + 1)) := .inr ⟨h, by rw [en]; exact P.low m (Nat.lt_succ_self m) (Nat.lt_of_succ_lt hn)⟩
      rcases Nat.lt_or_ge i m with y | y
      · exact less_trans W (P.srt i m y (Nat.lt_succ_self m)) base
      · rw [Nat.le_antisymm (Nat.le_of_lt_succ a) y]
        exact base
omit W in
theorem sh (n f : Nat) : n + (f + 1) = n + 1 + f := by rw [Nat.add_assoc, Nat.add_comm 1 f]
theorem asc_pre {p : Array Nat} : ∀ (f n : Nat), Pre lt N p n → 1 ≤ n → n + f ≤ N → Pre lt N p (kev lt (kas_asc p f n)) ∧ n ≤ kev lt (kas_asc p f n) ∧ kev lt (kas_asc p f n) ≤ n + f ∧ (kev lt (kas_asc p f n) = n + f ∨ lt (at' p (kev lt (kas_asc p f n))) (at' p (kev lt (kas_asc p f n) - 1)) = true)
  | 0, n, P, h1, h2 => ⟨P, Nat.le_refl _, Nat.le_refl _, .inl rfl⟩
  | f + 1, n, P, h1, h2 => by
    obtain ⟨m, rfl⟩ := Nat.exists_eq_add_of_le' h1
    rw [show kev lt (kas_asc p (f + 1) (m + 1)) = kev lt (if lt (at' p (m + 1)) (at' p m) = true then KasT.ret (m + 1) else kas_asc p f (m + 1 + 1)) from rfl]
    cases q : lt (at' p (m + 1)) (at' p m) with
    | true =>
      rw [if_pos rfl]
      exact ⟨P, Nat.le_refl _, Nat.le_add_right .., .inr q⟩
    | false =>
      rw [if_neg Bool.false_ne_true]
      rw [sh (m + 1) f] at h2 ⊢
      obtain ⟨a, b, c, d⟩ := asc_pre f (m + 1 + 1) (P.step W (Nat.le_trans (Nat.le_add_right ..) h2) q) (Nat.succ_pos _) h2
      exact ⟨a, Nat.le_of_succ_le b, c, d⟩
structure Dsc (lt : Nat → Nat → Bool) (N : Nat) (p : Array Nat) (n q s : Nat) : Prop where
  size : p.size = N
  perm : p.toList.Perm (List.range N)
  qn : s + q + 1 = n
  nN : n ≤ N
  rest : ∀ j, s ≤ j → j < N → at' p j = j
  low : ∀ j, j < s → at' p j < s
  fall : ∀ i j, i < j → j < s → less lt (at' p j) (at' p i)
  eqs : ∀ i j, s ≤ i → i < n → s ≤ j → j < n → lt i j = false
  below : ∀ i j, i < s → s ≤ j → j < n → lt j (at' p i) = true
structure Dsd (lt : Nat → Nat → Bool) (N : Nat) (p : Array Nat) (n : Nat) : Prop where
  size : p.size = N
  perm : p.toList.Perm (List.range N)
  nN : n ≤ N
  rest : ∀ j, n ≤ j → j < N → at' p j = j
  low : ∀ j, j < n → at' p j < n
  fall : ∀ i j, i < j → j < n → less lt (at' p j) (at' p i)
omit W in
theorem mir_ok {s n k : Nat} (h1 : s ≤ k) (h2 : k < n) : s ≤ s + n - 1 - k ∧ s + n - 1 - k < n := by lia
omit W in
theorem mir_anti {s n i j : Nat} (h1 : i < j) (h2 : j < n) : s + n - 1 - j < s + n - 1 - i := by lia
omit W in
theorem Dsc.turn {p : Array Nat} {n q s : Nat} (D : Dsc lt N p n q s) : Dsd lt N (kas_rev p s n) n ∧ (∀ i, i < n → (∃ j, s ≤ j ∧ j < n ∧ at' (kas_rev p s n) i = j) ∨ (i < s ∧ at' (kas_rev p s n) i = at' p i)) := by
  have hN := D.nN
  obtain rfl := D.size
  have hsn : s ≤ n := by have := D.qn; lia
  have ar : ∀ k, k < p.size → at' (kas_rev p s n) k = if s ≤ k ∧ k < n then s + n - 1 - k else at' p k := fun k hk => by
    rw [at_rev hN hk]
    split
    · rename_i c
      have := mir_ok c.1 c.2
      exact D.rest _ this.1 (Nat.lt_of_lt_of_le this.2 hN)
    · rfl
  have ari : ∀ k, s ≤ k → k < n → at' (kas_rev p s n) k = s + n - 1 - k := fun k h1 h2 => (ar k (Nat.lt_of_lt_of_le h2 hN)).trans (if_pos ⟨h1, h2⟩)
  have aro : ∀ k, k < s → at' (kas_rev p s n) k = at' p k := fun k h1 => (ar k (Nat.lt_of_lt_of_le h1 (Nat.le_trans hsn hN))).trans (if_neg fun z => Nat.not_lt.mpr z.1 h1)
  refine ⟨⟨kas_rev_size .., (rev_perm _ _ _).trans D.perm, hN, fun j a b => ?_, fun j a => ?_, fun i j a b => ?_⟩, fun i hi => ?_⟩
  · rw [ar j b, if_neg fun z => Nat.not_lt.mpr a z.2]; exact D.rest j (Nat.le_trans hsn a) b
  · rcases Nat.lt_or_ge j s with z | z
    · rw [aro j z]; exact Nat.lt_of_lt_of_le (D.low j z) hsn
    · rw [ari j z a]; exact (mir_ok z a).2
  · rcases Nat.lt_or_ge i s with y | y
    · rcases Nat.lt_or_ge j s with z | z
      · rw [aro j z, aro i y]; exact D.fall i j a z
      · rw [ari j z b, aro i y]
        exact .inl (D.below i _ y (mir_ok z b).1 (mir_ok z b).2)
    · have z := Nat.le_trans y (Nat.le_of_lt a)
      rw [ari j z b, ari i y (Nat.lt_trans a b)]
      exact .inr ⟨D.eqs _ _ (mir_ok y (Nat.lt_trans a b)).1 (mir_ok y (Nat.lt_trans a b)).2 (mir_ok z b).1 (mir_ok z b).2, mir_anti a b⟩
  · rcases Nat.lt_or_ge i s with y | y
    · exact .inr ⟨y, aro i y⟩
    · exact .inl ⟨_, (mir_ok y hi).1, (mir_ok y hi).2, ari i y hi⟩
omit W in
theorem rev_one {p : Array Nat} {s : Nat} : kas_rev p s (s + 1) = p := by
  unfold kas_rev mirror
  rw [show (s + 1 - s) / 2 = 0 by rw [Nat.add_sub_cancel_left]]; rfl
theorem WO.irr (i : Nat) : lt i i = false := by
  cases z : lt i i with
  | false => rfl
  | true => exact (z.symm.trans (W.asymm _ _ z)).symm ▸ rfl
theorem desc_run : ∀ (f : Nat) (p : Array Nat) (n q s : Nat), Dsc lt N p n q s → n + f ≤ N →
    ∃ p' n' q' s', kev lt (kas_desc f p n q) = (p', n', q') ∧ Dsc lt N p' n' q' s' ∧ n ≤ n' ∧ n' ≤ n + f
  | 0, p, n, q, s, D, _ => ⟨p, n, q, s, rfl, D, Nat.le_refl _, Nat.le_refl _⟩
  | f + 1, p, n, q, s, D, hf => by
    obtain rfl := D.qn
    have hf' : s + q + 1 + 1 + f ≤ N := by lia
    have hN1 : s + q + 1 < N := Nat.lt_of_lt_of_le (by lia) hf'
    have sn : s ≤ s + q + 1 := by lia
    have en : at' p (s + q + 1) = s + q + 1 := D.rest _ sn hN1
    have en1 : at' p (s + q) = s + q := D.rest _ (Nat.le_add_right ..) (Nat.lt_of_succ_lt hN1)
    have nn := W.irr (s + q + 1)
    have hsub : s + q + 1 - (q + 1) = s := by rw [Nat.add_assoc, Nat.add_sub_cancel]
    have e : kev lt (kas_desc (f + 1) p (s + q + 1) q) = kev lt (if lt (at' p (s + q + 1)) (at' p (s + q)) = true then (if q > 0 then kas_desc f (kas_rev p (s + q + 1 - (q + 1)) (s + q + 1)) (s + q + 1 + 1) 0 else kas_desc f p (s + q + 1 + 1) 0)
      else .ask (at' p (s + q)) (at' p (s + q + 1)) fun d => if d = true then .ret (p, s + q + 1, q) else kas_desc f p (s + q + 1 + 1) (q + 1)) := rfl
    rw [e, hsub]
    have last : ∀ i, s + q + 1 ≤ i → i < s + q + 1 + 1 → i = s + q + 1 := fun i a b => Nat.le_antisymm (Nat.le_of_lt_succ b) a
    cases c : lt (at' p (s + q + 1)) (at' p (s + q)) with
    | true =>
      rw [if_pos rfl]
      have hr : (if q > 0 then kas_desc f (kas_rev p s (s + q + 1)) (s + q + 1 + 1) 0 else kas_desc f p (s + q + 1 + 1) 0) = kas_desc f (kas_rev p s (s + q + 1)) (s + q + 1 + 1) 0 := by
        cases q with
        | zero => rw [if_neg (Nat.lt_irrefl 0)]; exact congrArg (fun p => kas_desc f p (s + 0 + 1 + 1) 0) rev_one.symm
        | succ q => exact if_pos (Nat.succ_pos q)
      rw [hr]
      obtain ⟨T, T2⟩ := D.turn
      rw [en, en1] at c
      have D' : Dsc lt N (kas_rev p s (s + q + 1)) (s + q + 1 + 1) 0 (s + q + 1) := by
        refine ⟨T.size, T.perm, rfl, hN1, T.rest, T.low, T.fall, fun i j a b a' b' => ?_, fun i j a b b' => ?_⟩
        · rw [last i a b, last j a' b']; exact nn
        · rw [last j b b']
          rcases T2 i a with ⟨m, m1, m2, e1⟩ | ⟨m1, e1⟩
          · rw [e1]
            exact W.ltr c (D.eqs m (s + q) m1 m2 (Nat.le_add_right ..) (Nat.lt_succ_self _))
          · rw [e1]
            exact W.ltr c (W.asymm _ _ (D.below i (s + q) m1 (Nat.le_add_right ..) (Nat.lt_succ_self _)))
      obtain ⟨p', n', q', s', a1, a2, a3, a4⟩ := desc_run f _ _ 0 _ D' hf'
      exact ⟨p', n', q', s', a1, a2, Nat.le_of_succ_le a3, by lia⟩
    | false =>
      rw [if_neg Bool.false_ne_true]
      have e2 : kev lt (KasT.ask (at' p (s + q)) (at' p (s + q + 1)) fun d => if d = true then .ret (p, s + q + 1, q) else kas_desc f p (s + q + 1 + 1) (q + 1)) = kev lt (if lt (at' p (s + q)) (at' p (s + q + 1)) = true then .ret (p, s + q + 1, q) else kas_desc f p (s + q + 1 + 1) (q + 1)) := rfl
      rw [e2]
      cases d : lt (at' p (s + q)) (at' p (s + q + 1)) with
      | true =>
        rw [if_pos rfl]
        exact ⟨p, _, q, s, rfl, D, Nat.le_refl _, Nat.le_add_right ..⟩
      | false =>
        rw [if_neg Bool.false_ne_true]
        rw [en, en1] at c d
        have sq := Nat.le_add_right s q
        have qs := Nat.lt_succ_self (s + q)
        have D' : Dsc lt N p (s + q + 1 + 1) (q + 1) s := by
          refine ⟨D.size, D.perm, rfl, hN1, D.rest, D.low, D.fall, fun i j a b a' b' => ?_, fun i j a b b' => ?_⟩
          · rcases Nat.lt_or_ge i (s + q + 1) with hi | hi <;> rcases Nat.lt_or_ge j (s + q + 1) with hj | hj
            · exact D.eqs i j a hi a' hj
            · rw [last j hj b']; exact W.trans _ (s + q) i d (D.eqs i _ a hi sq qs)
            · rw [last i hi b]; exact W.trans j (s + q) _ (D.eqs _ j sq qs a' hj) c
            · rw [last i hi b, last j hj b']; exact nn
          · rcases Nat.lt_or_ge j (s + q + 1) with hj | hj
            · exact D.below i j a b hj
            · rw [last j hj b']; exact W.rtl d (D.below i _ a sq qs)
        obtain ⟨p', n', q', s', a1, a2, a3, a4⟩ := desc_run f p _ (q + 1) s D' hf'
        exact ⟨p', n', q', s', a1, a2, Nat.le_of_succ_le a3, by lia⟩
omit W in
theorem Dsd.pre {p : Array Nat} {n : Nat} (D : Dsd lt N p n) : Pre lt N (kas_rev p 0 n) n := by
  have hN := D.nN
  obtain rfl := D.size
  have ar : ∀ k, k < n → at' (kas_rev p 0 n) k = at' p (0 + n - 1 - k) := fun k hk => (at_rev hN (Nat.lt_of_lt_of_le hk hN)).trans (if_pos ⟨Nat.zero_le _, hk⟩)
  refine ⟨kas_rev_size .., (rev_perm _ _ _).trans D.perm, fun j a b => ?_, fun j a b => ?_, fun i j a b => ?_⟩
  · rw [at_rev hN b, if_neg fun z => Nat.not_lt.mpr a z.2]; exact D.rest j a b
  · rw [ar j a]; exact D.low _ (mir_ok (Nat.zero_le j) a).2
  · rw [ar i (Nat.lt_trans a b), ar j b]
    exact D.fall _ _ (mir_anti a b) (mir_ok (Nat.zero_le i) (Nat.lt_trans a b)).2
theorem tail3_pre {p : Array Nat} {n nrem : Nat} (D : Dsd lt N p n) (h1 : 1 ≤ n) (hn : n ≤ nrem) (hr : nrem ≤ N) :
    ∃ m p', kev lt (kas_tail3 n nrem p) = (m, p') ∧ Pre lt N p' m ∧ n ≤ m ∧ m ≤ nrem := by
  unfold kas_tail3
  rw [kev_bind]
  obtain ⟨a, b, c, _⟩ := asc_pre W (nrem - n) n D.pre h1 (by lia)
  exact ⟨_, _, rfl, a, b, by lia⟩
theorem descPart_pre {p : Array Nat} {n nrem : Nat} (D : Dsd lt N p n) (hn : n < nrem) (hr : nrem ≤ N) (hb : ∀ i, i < n → lt n (at' p i) = true) :
    ∃ m p', kev lt (kas_descPart n nrem p) = (m, p') ∧ Pre lt N p' m ∧ 1 ≤ m ∧ m ≤ nrem := by
  have last : ∀ i, n ≤ i → i < n + 1 → i = n := fun i a b => Nat.le_antisymm (Nat.le_of_lt_succ b) a
  have D0 : Dsc lt N p (n + 1) 0 n := ⟨D.size, D.perm, rfl, Nat.le_trans hn hr, D.rest, D.low, D.fall, fun i j a b a' b' => by
    rw [last i a b, last j a' b']; exact W.irr n, fun i j a b b' => by
    rw [last j b b']; exact hb i a⟩
  obtain ⟨d, rfl⟩ := Nat.exists_eq_add_of_le hn
  obtain ⟨p', n', q', s', e, D', a, b⟩ := desc_run W d p (n + 1) 0 n D0 hr
  unfold kas_descPart
  rw [kev_bind, show n + 1 + d - (n + 1) = d from Nat.add_sub_cancel_left .., e]
  dsimp only
  have T := D'.turn.1
  have e2 : (if q' > 0 then kas_tail3 n' (n + 1 + d) (kas_rev p' (n' - (q' + 1)) n') else kas_tail3 n' (n + 1 + d) p') = kas_tail3 n' (n + 1 + d) (kas_rev p' s' n') := by
    obtain rfl := D'.qn
    rw [show s' + q' + 1 - (q' + 1) = s' by rw [Nat.add_assoc, Nat.add_sub_cancel]]
    cases q' with
    | zero => rw [if_neg (Nat.lt_irrefl 0)]; exact congrArg (kas_tail3 (s' + 0 + 1) (n + 1 + d)) rev_one.symm
    | succ q => exact if_pos (Nat.succ_pos q)
  rw [e2]
  have h1 : 1 ≤ n' := Nat.le_trans (Nat.le_add_left ..) a
  obtain ⟨m, p'', e3, P, c, d⟩ := tail3_pre W T h1 b hr
  exact ⟨m, p'', e3, P, Nat.le_trans h1 c, d⟩
omit W in
theorem range_at {n k : Nat} (h : k < n) : at' (List.toArray (List.range n)) k = k := by
  unfold at'
  rw [Array.getD_eq_getD_getElem?]
  simp [h]
theorem count_pre (h1 : 1 ≤ N) : ∃ m p', kev lt (kas_count N (List.toArray (List.range N))) = (m, p') ∧ Pre lt N p' m ∧ 1 ≤ m ∧ m ≤ N := by
  obtain ⟨M, rfl⟩ := Nat.exists_eq_add_of_le' h1
  have hsz : (List.toArray (List.range (M + 1))).size = M + 1 := by simp
  have P0 : Pre lt (M + 1) (List.toArray (List.range (M + 1))) 1 := ⟨hsz, .refl _, fun j a b => range_at b, fun j a b => by rw [range_at b]; exact a, fun i j a b => absurd (Nat.lt_of_lt_of_le a (Nat.le_of_lt_succ b)) (Nat.not_lt_zero i)⟩
  obtain ⟨a, b, c, d⟩ := asc_pre W M 1 P0 (Nat.le_refl _) (Nat.le_of_eq (Nat.add_comm ..))
  unfold kas_count
  rw [kev_bind, Nat.add_sub_cancel]
  generalize kev lt (kas_asc (List.toArray (List.range (M + 1))) M 1) = n at *
  rw [Nat.add_comm 1 M] at c d
  by_cases e1 : (n == M + 1) = true
  · rw [if_pos e1]
    exact ⟨n, _, rfl, a, b, c⟩
  · rw [if_neg e1]
    have hn : n < M + 1 := Nat.lt_of_le_of_ne c (by simpa using e1)
    obtain ⟨m, rfl⟩ := Nat.exists_eq_add_of_le' b
    have hlt : lt (m + 1) m = true := by
      rcases d with d | d
      · exact absurd d (Nat.ne_of_lt hn)
      · rwa [Nat.add_sub_cancel, range_at hn, range_at (Nat.lt_of_succ_lt hn)] at d
    cases m with
    | succ m' =>
      generalize hm : m' + 1 = m at *
      have hm0 : 0 < m := hm ▸ Nat.succ_pos m'
      rw [if_pos (Nat.succ_lt_succ hm0)]
      show ∃ m_1 p', kev lt (KasT.ask (at' (List.toArray (List.range (M + 1))) 0) (at' (List.toArray (List.range (M + 1))) (m + 1 - 1)) fun c => if c = true then KasT.ret (m + 1, List.toArray (List.range (M + 1))) else kas_descPart (m + 1) (M + 1) (kas_rev (List.toArray (List.range (M + 1))) 0 (m + 1))) = (m_1, p') ∧ _
      rw [show kev lt (KasT.ask (at' (List.toArray (List.range (M + 1))) 0) (at' (List.toArray (List.range (M + 1))) (m + 1 - 1)) fun c => if c = true then KasT.ret (m + 1, List.toArray (List.range (M + 1))) else kas_descPart (m + 1) (M + 1) (kas_rev (List.toArray (List.range (M + 1))) 0 (m + 1))) =
        kev lt (if lt (at' (List.toArray (List.range (M + 1))) 0) (at' (List.toArray (List.range (M + 1))) m) = true then KasT.ret (m + 1, List.toArray (List.range (M + 1))) else kas_descPart (m + 1) (M + 1) (kas_rev (List.toArray (List.range (M + 1))) 0 (m + 1))) from rfl, range_at (Nat.succ_pos M), range_at (Nat.lt_of_succ_lt hn)]
      cases q : lt 0 m with
      | true =>
        rw [if_pos rfl]
        exact ⟨m + 1, _, rfl, a, b, c⟩
      | false =>
        rw [if_neg Bool.false_ne_true]
        have le : ∀ i j, i < j → j < m + 1 → lt j i = false := fun i j x y => by
          have := a.srt i j x y
          rw [range_at (Nat.lt_trans (Nat.lt_trans x y) hn), range_at (Nat.lt_trans y hn)] at this
          exact less_le W this
        have ge0 : ∀ j, j < m + 1 → lt 0 j = false := fun j y => by
          rcases Nat.lt_or_ge j m with z | z
          · exact W.trans j m 0 (le j m z (Nat.lt_succ_self m)) q
          · rw [Nat.le_antisymm (Nat.le_of_lt_succ y) z]; exact q
        have eq : ∀ i j, i < m + 1 → j < m + 1 → lt i j = false := fun i j x y => by
          rcases Nat.eq_zero_or_pos i with z | z
          · rw [z]; exact ge0 j y
          · exact W.trans j 0 i (ge0 j y) (le 0 i z x)
        have sz : m + 1 ≤ (List.toArray (List.range (M + 1))).size := hsz.symm ▸ c
        have ari : ∀ k, k < m + 1 → at' (kas_rev (List.toArray (List.range (M + 1))) 0 (m + 1)) k = 0 + (m + 1) - 1 - k := fun k hk => by
          rw [at_rev sz (Nat.lt_of_lt_of_le hk sz), if_pos ⟨Nat.zero_le k, hk⟩]
          exact range_at (Nat.lt_trans (mir_ok (Nat.zero_le k) hk).2 hn)
        refine descPart_pre W (n := m + 1) (nrem := M + 1) (p := kas_rev (List.toArray (List.range (M + 1))) 0 (m + 1)) ⟨by rw [kas_rev_size]; exact hsz, (rev_perm _ _ _).trans (.refl _), c, fun j x y => ?_, fun j x => ?_, fun i j x y => ?_⟩ hn (Nat.le_refl _) fun i x => ?_
        · rw [at_rev sz (hsz.symm ▸ y), if_neg fun z => Nat.not_lt.mpr x z.2]; exact range_at y
        · rw [ari j x]; exact (mir_ok (Nat.zero_le j) x).2
        · have x' := Nat.lt_trans x y
          rw [ari i x', ari j y]
          exact .inr ⟨eq _ _ (mir_ok (Nat.zero_le i) x').2 (mir_ok (Nat.zero_le j) y).2, mir_anti x y⟩
        · rw [ari i x]
          exact W.ltr hlt (eq _ _ (mir_ok (Nat.zero_le i) x).2 (Nat.lt_succ_self m))
    | zero =>
      rw [if_neg (Nat.lt_irrefl _)]
      refine descPart_pre W (n := 1) (nrem := M + 1) (p := List.toArray (List.range (M + 1))) ⟨hsz, .refl _, c, fun j x y => range_at y, fun j x => ?_, fun i j x y => absurd (Nat.lt_of_lt_of_le x (Nat.le_of_lt_succ y)) (Nat.not_lt_zero i)⟩ hn (Nat.le_refl _) fun i x => ?_
      · rw [range_at (Nat.lt_trans x hn)]; exact x
      · rw [Nat.lt_one_iff.mp x, range_at (Nat.succ_pos M)]; exact hlt
theorem place_ok {p : Array Nat} {k : Nat} (P : Pre lt N p k) : ∀ (f l r : Nat), l ≤ k → r ≤ k → r ≤ l + f → (∀ i, i < l → lt (at' p k) (at' p i) = false) → (∀ i, r ≤ i → i < k → lt (at' p k) (at' p i) = true) →
    kev lt (kas_place p k f l r) ≤ k ∧ (∀ i, i < kev lt (kas_place p k f l r) → lt (at' p k) (at' p i) = false) ∧ (∀ i, kev lt (kas_place p k f l r) ≤ i → i < k → lt (at' p k) (at' p i) = true)
  | 0, l, r, h1, h2, h3, a, b => ⟨h1, a, fun i x y => b i (Nat.le_trans h3 x) y⟩
  | f + 1, l, r, h1, h2, h3, a, b => by
    rw [show kev lt (kas_place p k (f + 1) l r) = kev lt (if l ≥ r then .ret l else .ask (at' p k) (at' p ((l + r) / 2)) fun c => if c = true then kas_place p k f l ((l + r) / 2) else kas_place p k f ((l + r) / 2 + 1) r) from rfl]
    rcases Nat.lt_or_ge l r with c | c
    · have hm : l ≤ (l + r) / 2 ∧ (l + r) / 2 < r := by lia
      generalize (l + r) / 2 = mid at *
      rw [if_neg (Nat.not_le.mpr c), show kev lt (KasT.ask (at' p k) (at' p mid) fun c => if c = true then kas_place p k f l mid else kas_place p k f (mid + 1) r) = kev lt (if lt (at' p k) (at' p mid) = true then kas_place p k f l mid else kas_place p k f (mid + 1) r) from rfl]
      cases q : lt (at' p k) (at' p mid) with
      | true =>
        rw [if_pos rfl]
        refine place_ok P f l mid h1 (Nat.le_trans (Nat.le_of_lt hm.2) h2) (Nat.le_of_lt_succ (Nat.lt_of_lt_of_le hm.2 h3)) a fun i x y => ?_
        rcases Nat.lt_or_ge mid i with z | z
        · exact W.ltr q (less_le W (P.srt _ _ z y))
        · rw [Nat.le_antisymm z x]; exact q
      | false =>
        rw [if_neg Bool.false_ne_true]
        refine place_ok P f (mid + 1) r (Nat.le_trans hm.2 h2) h2 (Nat.le_trans (sh l f ▸ h3) (Nat.add_le_add_right (Nat.succ_le_succ hm.1) f)) (fun i x => ?_) b
        rcases Nat.lt_or_ge i mid with z | z
        · exact W.trans _ _ _ (less_le W (P.srt _ _ z (Nat.lt_of_lt_of_le hm.2 h2))) q
        · rw [Nat.le_antisymm (Nat.le_of_lt_succ x) z]; exact q
    · rw [if_pos c]
      exact ⟨h1, a, fun i x y => b i (Nat.le_trans c x) y⟩
omit W in
theorem tri3 (l j : Nat) : j < l ∨ j = l ∨ ∃ i, j = i + 1 ∧ l ≤ i := by
  rcases Nat.lt_trichotomy j l with h | h | h
  · exact .inl h
  · exact .inr (.inl h)
  · cases j with
    | zero => exact absurd h (Nat.not_lt_zero l)
    | succ i => exact .inr (.inr ⟨i, rfl, Nat.le_of_lt_succ h⟩)
theorem bubble_pre {p : Array Nat} {k l : Nat} (P : Pre lt N p k) (hk : k < N) (hl : l ≤ k) (a : ∀ i, i < l → lt (at' p k) (at' p i) = false) (b : ∀ i, l ≤ i → i < k → lt (at' p k) (at' p i) = true) : Pre lt N (bubble p k (k - l)) (k + 1) := by
  obtain rfl := P.size
  have ek : at' p k = k := P.rest k (Nat.le_refl _) hk
  rw [ek] at a b
  have ar : ∀ j, j < p.size → at' (bubble p k (k - l)) j = if j = l then k else if l < j ∧ j ≤ k then at' p (j - 1) else at' p j := fun j hj => by
    rw [at_bubble hk (Nat.sub_le ..) hj, ek, Nat.sub_sub_self hl]
  have a1 : ∀ j, l ≤ j → j < k → at' (bubble p k (k - l)) (j + 1) = at' p j := fun j x y => by
    rw [ar _ (Nat.lt_of_le_of_lt y hk), if_neg (Nat.ne_of_gt (Nat.lt_succ_of_le x)), if_pos ⟨Nat.lt_succ_of_le x, y⟩]; rfl
  have a2 : ∀ j, j < l → at' (bubble p k (k - l)) j = at' p j := fun j x => by
    rw [ar _ (Nat.lt_trans (Nat.lt_of_lt_of_le x hl) hk), if_neg (Nat.ne_of_lt x), if_neg fun z => Nat.lt_asymm x z.1]
  have a0 : at' (bubble p k (k - l)) l = k := by
    rw [ar _ (Nat.lt_of_le_of_lt hl hk), if_pos rfl]
  refine ⟨bubble_size .., (Array.perm_iff_toList_perm.mp (bubble_perm p k _)).trans P.perm, fun j x y => ?_, fun j x y => ?_, fun i j x y => ?_⟩
  · rw [ar j y, if_neg (Nat.ne_of_gt (Nat.lt_of_le_of_lt hl x)), if_neg fun z => Nat.not_le.mpr x z.2]; exact P.rest j (Nat.le_of_succ_le x) y
  · rcases tri3 l j with z | z | ⟨i, rfl, z⟩
    · rw [a2 j z]; exact Nat.lt_succ_of_lt (P.low j (Nat.lt_of_lt_of_le z hl) y)
    · rw [z, a0]; exact Nat.lt_succ_self k
    · rw [a1 i z (Nat.lt_of_succ_lt_succ x)]; exact Nat.lt_succ_of_lt (P.low i (Nat.lt_of_succ_lt_succ x) (Nat.lt_of_succ_lt y))
  · rcases tri3 l j with z | z | ⟨j, rfl, z⟩
    · rw [a2 j z, a2 i (Nat.lt_trans x z)]; exact P.srt i j x (Nat.lt_of_lt_of_le z hl)
    · rw [z] at x ⊢
      rw [a0, a2 i x]; exact .inr ⟨a i x, P.low i (Nat.lt_of_lt_of_le x hl) (Nat.lt_trans (Nat.lt_of_lt_of_le x hl) hk)⟩
    · have y' := Nat.lt_of_succ_lt_succ y
      rw [a1 j z y']
      rcases tri3 l i with w | w | ⟨i, rfl, w⟩
      · rw [a2 i w]; exact P.srt i j (Nat.lt_of_lt_of_le w z) y'
      · rw [w, a0]; exact .inl (b j z y')
      · rw [a1 i w (Nat.lt_trans (Nat.lt_of_succ_lt_succ x) y')]; exact P.srt i j (Nat.lt_of_succ_lt_succ x) y'
theorem bin_pre : ∀ (f k : Nat) (p : Array Nat), Pre lt N p k → k + f = N → Pre lt N (kev lt (kas_bin f p k)) N
  | 0, k, p, P, h => by
    have e : k = N := by lia
    subst e; exact P
  | f + 1, k, p, P, h => by
    rw [show kas_bin (f + 1) p k = (kas_place p k k 0 k).bind fun l => kas_bin f (bubble p k (k - l)) (k + 1) from rfl, kev_bind]
    obtain ⟨a, b, c⟩ := place_ok W P k 0 k (Nat.zero_le _) (Nat.le_refl _) (by exact Nat.le_add_left _ _) (fun i x => absurd x (Nat.not_lt_zero i)) (fun i x y => absurd x (Nat.not_le.mpr y))
    exact bin_pre f (k + 1) _ (bubble_pre W P (by lia) a b c) (by lia)
theorem sort_pre (h1 : 1 ≤ N) : Pre lt N (kev lt (kas_sort N)) N := by
  obtain ⟨m, p', e, P, a, b⟩ := count_pre W h1
  unfold kas_sort
  rw [kev_bind, e]
  dsimp only
  split
  · rw [show max m 1 = m by lia]
    exact bin_pre W (N - m) m p' P (by lia)
  · obtain rfl : m = N := by lia
    exact P
end

noncomputable def KP {α : Type} (n : Nat) (P : α → Prop) : KasT α → Prop
  | .ret a => P a
  | .ask i j k => i < n ∧ j < n ∧ ∀ b, KP n P (k b)
theorem KP.bind {α β : Type} {n : Nat} {f : α → KasT β} {P : α → Prop} {R : β → Prop} : ∀ {t : KasT α}, KP n P t → (∀ a, P a → KP n R (f a)) → KP n R (t.bind f)
  | .ret a, h, hf => hf a h
  | .ask _ _ k, ⟨h1, h2, h3⟩, hf => ⟨h1, h2, fun b => KP.bind (h3 b) hf⟩
noncomputable def AllLt (n : Nat) (p : Array Nat) : Prop := p.size = n ∧ ∀ x ∈ p.toList, x < n
theorem AllLt.at {n : Nat} {p : Array Nat} (h : AllLt n p) (hn : 0 < n) (k : Nat) : p.getD k 0 < n := by
  rw [Array.getD_eq_getD_getElem?]
  cases q : p[k]? with
  | none => exact hn
  | some x => exact h.2 x (by rw [Array.mem_toList_iff]; exact Array.mem_of_getElem? q)
theorem AllLt.rev {n : Nat} {p : Array Nat} (h : AllLt n p) (i j : Nat) : AllLt n (kas_rev p i j) := ⟨by rw [kas_rev_size]; exact h.1, fun x hx => h.2 x ((rev_perm p i j).mem_iff.mp hx)⟩
theorem AllLt.bub {n : Nat} {p : Array Nat} (h : AllLt n p) (i j : Nat) : AllLt n (bubble p i j) := ⟨by rw [bubble_size]; exact h.1, fun x hx => h.2 x ((Array.perm_iff_toList_perm.mp (bubble_perm p i j)).mem_iff.mp hx)⟩
section
variable {n : Nat} (hn : 0 < n)
include hn
theorem kp_asc {p : Array Nat} (h : AllLt n p) : ∀ f m, KP n (fun _ => True) (kas_asc p f m)
  | 0, _ => trivial
  | f + 1, m => ⟨h.at hn _, h.at hn _, fun b => by
    cases b with
    | true => exact trivial
    | false => exact kp_asc h f (m + 1)⟩
theorem kp_desc : ∀ f (p : Array Nat) m q, AllLt n p → KP n (fun r => AllLt n r.1) (kas_desc f p m q)
  | 0, p, m, q, h => h
  | f + 1, p, m, q, h => ⟨h.at hn _, h.at hn _, fun b => by
    cases b with
    | true =>
      show KP n _ (if q > 0 then kas_desc f (kas_rev p (m - (q + 1)) m) (m + 1) 0 else kas_desc f p (m + 1) 0)
      split
      · exact kp_desc f _ _ _ (h.rev _ _)
      · exact kp_desc f _ _ _ h
    | false =>
      refine ⟨h.at hn _, h.at hn _, fun d => ?_⟩
      cases d with
      | true => exact h
      | false => exact kp_desc f _ _ _ h⟩
theorem kp_tail3 {p : Array Nat} (h : AllLt n p) (a b : Nat) : KP n (fun r => AllLt n r.2) (kas_tail3 a b p) :=
  (kp_asc hn (h.rev 0 a) (b - a) a).bind fun _ _ => h.rev 0 a
theorem kp_descPart {p : Array Nat} (h : AllLt n p) (a b : Nat) : KP n (fun r => AllLt n r.2) (kas_descPart a b p) :=
  (kp_desc hn (b - (a + 1)) p (a + 1) 0 h).bind fun r hr => by
    split
    · exact kp_tail3 hn (hr.rev _ _) _ _
    · exact kp_tail3 hn hr _ _
theorem kp_count {p : Array Nat} (h : AllLt n p) (b : Nat) : KP n (fun r => AllLt n r.2) (kas_count b p) :=
  (kp_asc hn h (b - 1) 1).bind fun m _ => by
    split
    · exact h
    · split
      · refine ⟨h.at hn _, h.at hn _, fun c => ?_⟩
        cases c with
        | true => exact h
        | false => exact kp_descPart hn (h.rev _ _) _ _
      · exact kp_descPart hn h _ _
theorem kp_place {p : Array Nat} (h : AllLt n p) (k : Nat) : ∀ f l r, KP n (fun _ => True) (kas_place p k f l r)
  | 0, _, _ => trivial
  | f + 1, l, r => by
    show KP n _ (if l ≥ r then KasT.ret l else .ask (p.getD k 0) (p.getD ((l + r) / 2) 0) fun c => if c = true then kas_place p k f l ((l + r) / 2) else kas_place p k f ((l + r) / 2 + 1) r)
    split
    · exact trivial
    · refine ⟨h.at hn _, h.at hn _, fun c => ?_⟩
      cases c with
      | true => exact kp_place h k f _ _
      | false => exact kp_place h k f _ _
theorem kp_bin : ∀ f (p : Array Nat) k, AllLt n p → KP n (AllLt n) (kas_bin f p k)
  | 0, p, k, h => h
  | f + 1, p, k, h => (kp_place hn h k k 0 k).bind fun l _ => kp_bin f _ _ (h.bub _ _)
theorem kp_sort : KP n (AllLt n) (kas_sort n) := by
  have h0 : AllLt n (List.toArray (List.range n)) := ⟨by simp, fun x hx => by simpa using hx⟩
  refine (kp_count hn h0 n).bind fun r hr => ?_
  split
  · exact kp_bin hn _ _ _ hr
  · exact hr
end
section
variable {C : Cx} {A : Around} {h h₀ h' : Heap} {env : Env} {l l' : List (Str × Option PV)} {cs cs' ds : List (Addr × AO)} {K : Frag}
theorem kasWp_kev {α : Type} {κ : SortKind} {it : Array Keyed} {n : Nat} {lt : Nat → Nat → Bool} {P : α → Prop} {G : α → Shared → Prop}
    (hcmp : ∀ i j, i < n → j < n → ∀ Q : Bool → Heap → Prop, Q (lt i j) h → Wp C A (keyLt' κ (kas_item it i).1 (kas_item it j).1) Q h) :
    ∀ (t : KasT α), KP n P t → (∀ tk, G (kev lt t) (C.st h tk)) → ∀ tk, t.kasWp (kas_cmp C.prog C.w A κ it) G (C.st h tk) := by
  intro t
  induction t with
  | ret a => exact fun _ k tk => k tk
  | ask i j kk ih =>
    rintro ⟨h1, h2, h3⟩ k tk
    refine wpAny_mono (hcmp i j h1 h2 (fun b h' => b = lt i j ∧ h' = h) ⟨rfl, rfl⟩ tk) (fun b s' q => ?_) fun _ _ z => z.elim
    obtain ⟨h', t', rfl, rfl, rfl⟩ := q
    exact ih (lt i j) (h3 _) k t'
theorem w_runs {κ : SortKind} {it : Array Keyed} {lt : Nat → Nat → Bool} {Q : Unit × SortSt → Heap → Prop} (h2 : 2 ≤ it.size) (h64 : it.size < 64)
    (hcmp : ∀ i j, i < it.size → j < it.size → ∀ Q : Bool → Heap → Prop, Q (lt i j) h → Wp C A (keyLt' κ (kas_item it i).1 (kas_item it j).1) Q h)
    (k : ∀ st, arrOf st = (kev lt (kas_sort it.size)).map (kas_item it) → failedOf st = none → Q ((), st) h) : Wp C A (sortRuns'.run (SortSt.mk' κ it #[] 7 none)) Q h := fun tk => by
  have run := kas_runs (prog := C.prog) (w := C.w) (A := A) (E := fun _ _ => False) (κ := κ) (it := it) (n := it.size) (Q := fun _ st' s' => ∃ t', s' = C.st h t' ∧ arrOf st' = (kev lt (kas_sort it.size)).map (kas_item it) ∧ failedOf st' = none) (G := fun p' s' => (∃ t', s' = C.st h t') ∧ p' = kev lt (kas_sort it.size)) h2 h64
    (fun p' st' s' _ a2 a3 a4 => by obtain ⟨⟨t', e⟩, rfl⟩ := a4; exact ⟨t', e, a2, a3⟩) (kasWp_kev (C := C) (P := AllLt it.size) hcmp (kas_sort it.size) (kp_sort (by lia)) (fun tk => ⟨⟨tk, rfl⟩, rfl⟩) tk)
  have est : SortSt.mk' κ it #[] 7 none = kas_st κ it (List.toArray (List.range it.size)) := by
    show SortSt.mk' κ it #[] 7 none = SortSt.mk' κ ((List.toArray (List.range it.size)).map (kas_item it)) #[] 7 none
    rw [kas_range]
  rw [est]
  refine wpAny_mono run (fun r s' q => ?_) fun _ _ z => z
  obtain ⟨t', rfl, a, b⟩ := q
  exact ⟨h, t', rfl, k r.2 a b⟩
noncomputable def Ltk (C : Cx) (A : Around) (h : Heap) (p q : PV) (b : Bool) : Prop := ∀ u v, pv u = p → pv v = q → ∀ Q : Bool → Heap → Prop, Q b h → Wp C A (oneLt' true u v) Q h
theorem ltk_int {i j : Int} : Ltk C A h (.int i) (.int j) (decide (i < j)) := fun u v hu hv Q k t => by
  obtain ⟨_, rfl⟩ := pv_int hu; obtain ⟨_, rfl⟩ := pv_int hv
  exact oneLt_int ⟨_, _, rfl, k⟩
noncomputable def ssort (lt : PV → PV → Bool) (kv : PV → PV) (ps : List PV) : List PV :=
  (kev (fun i j => lt (kv (ps.getD i .none)) (kv (ps.getD j .none))) (kas_sort ps.length)).toList.map fun i => ps.getD i .none
end

section
variable {C : Cx} {A : Around} {h h₀ h' : Heap} {env : Env} {l l' : List (Str × Option PV)} {cs cs' ds : List (Addr × AO)} {K : Frag}
theorem Wp.attempt {α : Type} {m : Sem α} {Q : Except Value α → Heap → Prop} (x : Wp C A m (fun a h' => Q (.ok a) h') h) : Wp C A m.attempt Q h := fun t =>
  wpAny_attempt (wpAny_mono (x t) (fun _ _ q => q) fun _ _ z => z.elim)
theorem w_forList {body : Value → PUnit → Sem (ForInStep PUnit)} {Q : PUnit → Heap → Prop} (I : Nat → Heap → Prop) : ∀ (vs : List Value) (i : Nat) (h : Heap), I i h →
    (∀ j x h, vs[j]? = some x → I (i + j) h → Wp C A (body x ⟨⟩) (fun r h' => r = .yield ⟨⟩ ∧ I (i + j + 1) h') h) →
    (∀ h, I (i + vs.length) h → Q ⟨⟩ h) → Wp C A (forIn vs PUnit.unit body) Q h
  | [], i, h, hI, _, done => by
    rw [List.forIn_nil]
    exact Wp.pure (done h (by simpa using hI))
  | x :: vs, i, h, hI, step, done => by
    rw [List.forIn_cons]
    refine Wp.bind ((step 0 x h (by simp) hI).mono fun r h' q => ?_)
    obtain ⟨rfl, hI'⟩ := q
    show Wp C A (forIn vs PUnit.unit body) Q h'
    refine w_forList I vs (i + 1) h' hI' (fun j y h'' hy hJ => ?_) fun h'' hd => done h'' ?_
    · have e : i + (j + 1) = i + 1 + j := by lia
      have h1 := step (j + 1) y h'' (by simpa using hy) (by rw [e]; exact hJ)
      rw [e] at h1
      exact h1
    · have e : i + (x :: vs).length = i + 1 + vs.length := by rw [List.length_cons]; lia
      rw [e]; exact hd
theorem w_updRaw {a : Addr} {ps : List PV} {cs' : AO → List (Addr × AO)} {Q : Unit → Heap → Prop} (Z : St env h₀ l cs h) (c : CAt cs a (.list ps)) (hz : ps.length ≤ sizeLine)
    (hc : ∀ x, CSet a x cs (cs' x)) (k : ∀ h' n, St env h₀ l (cs' (.raw (listOf #[] n))) h' → Q () h') : Wp C A (Builtin.List.listUpdate (.ref a) fun _ => #[]) Q h := fun t => by
  obtain ⟨vs, n, eo, ev⟩ := own_list (Z.get c)
  have hsz : vs.size = ps.length := by rw [← ev, List.length_map]; simp
  refine wpAny_updateSeq eo rfl ⟨_, _, rfl, ?_⟩ (by rw [hsz]; exact hz) (by simp)
  obtain ⟨m, hm⟩ : ∃ m, (h.update a (Obj.mapSeq fun _ => (#[] : Array Value))).get? a = some (listOf #[] m) := ⟨_, get?_update_seq eo fun _ => #[]⟩
  exact k _ m (Z.upd (hc _) (Heap.SameBut.update ..) ⟨_, hm, rfl⟩)
theorem w_updFill {a : Addr} {n : Nat} {ps : List PV} {vs : Array Value} {cs' : List (Addr × AO)} {Q : Unit → Heap → Prop} (Z : St env h₀ l cs h) (c : CAt cs a (.raw (listOf #[] n))) (hc : CSet a (.list ps) cs cs') (hv : vs.toList.map pv = ps) (hz : ps.length ≤ sizeLine)
    (k : ∀ h', St env h₀ l cs' h' → Q () h') : Wp C A (Builtin.List.listUpdate (.ref a) fun _ => vs) Q h := fun t => by
  obtain ⟨o, eo, ed⟩ := Z.get c
  have eo : h.get? a = some (listOf #[] n) := by rw [eo]; exact congrArg some ed
  have hsz : vs.size = ps.length := by rw [← hv, List.length_map]; simp
  refine wpAny_updateSeq eo rfl ⟨_, _, rfl, ?_⟩ (by simp) (by rw [hsz]; exact Nat.le_trans (by assumption) (by decide))
  exact k _ (Z.upd hc (Heap.SameBut.update ..) ⟨_, Heap.get?_update_self _ eo rfl, vs, _, rfl, hv⟩)
theorem w_epoch {a : Addr} {n : Nat} {xs : Array Value} {Q : Nat → Heap → Prop} (Z : St env h₀ l cs h) (c : CAt cs a (.raw (listOf xs n))) (k : Q n h) : Wp C A (seqEpoch a) Q h := fun t => by
  obtain ⟨o, eo, ed⟩ := Z.get c
  have eo : h.get? a = some (listOf xs n) := by rw [eo]; exact congrArg some ed
  exact seqEpoch_at eo rfl ⟨_, _, rfl, k⟩
theorem w_items {a : Addr} {ps : List PV} {Q : Array Value → Heap → Prop} (o : Own h a (.list ps)) (k : ∀ vs : Array Value, vs.toList.map pv = ps → Q vs h) : Wp C A (Builtin.List.listItems (.ref a)) Q h := fun t => by
  obtain ⟨vs, n, eo, ev⟩ := own_list o
  exact listItems_at eo rfl ⟨_, _, rfl, k vs ev⟩
theorem w_collect {a : Addr} {ps : List PV} {Q : List Value → Heap → Prop} (Z : St env h₀ l cs h) (o : Own h a (.list ps)) (hz : ps.length ≤ sizeLine) (k : ∀ vs h', vs.map pv = ps → St env h₀ l cs h' → Q vs h') : Wp C A (collect (.ref a)) Q h := fun t => by
  obtain ⟨vs, il, ev⟩ := own_isList o
  have hsz : vs.size = ps.length := by rw [← ev, List.length_map]; simp
  have il' : (C.st h t).heap.IsList a vs.toList.toArray := by simpa using il
  refine collect_list il' ⟨_, _, rfl, k vs.toList _ ev (Z.keeps fun b o e => ?_)⟩ (by rw [Array.length_toList, hsz]; exact hz)
  have hlt : b < h.objs.size := Heap.lt_size e
  rw [Heap.get?_update_ne _ _ _ _ (Nat.ne_of_lt hlt), Heap.get?_push_ne _ _ _ (Nat.ne_of_lt hlt)]
  exact e
noncomputable def sortOut (b : Bool) (lt : PV → PV → Bool) (kv : PV → PV) (ps : List PV) : List PV := if b then (ssort lt kv ps.reverse).reverse else ssort lt kv ps
theorem Wp.keyKind {vs : List Value} {T : Value} {Q : SortKind → Heap → Prop} (h2 : 2 ≤ vs.length) (hT : ∀ v ∈ vs, Looks C.M h (typeOf v) T) (hT1 : (T != Value.type "tuple") = true) (hT2 : (T == T) = true) (k : Q oneType' h) : Wp C A (keyKind' vs.toArray) Q h := fun t =>
  kas_kind h2 hT hT1 hT2 ⟨_, _, rfl, k⟩
theorem kev_lt {n : Nat} {lt : Nat → Nat → Bool} (hn : 0 < n) : ∀ {α : Type} {P : α → Prop} (t : KasT α), KP n P t → P (kev lt t) := by
  intro α P t
  induction t with
  | ret a => exact fun h => h
  | ask i j k ih => exact fun h => ih _ (h.2.2 _)
theorem kev_congr {α : Type} {n : Nat} {P : α → Prop} {l1 l2 : Nat → Nat → Bool} (e : ∀ i j, i < n → j < n → l1 i j = l2 i j) : ∀ (t : KasT α), KP n P t → kev l1 t = kev l2 t := by
  intro t
  induction t with
  | ret a => exact fun _ => rfl
  | ask i j k ih =>
    intro h
    show kev l1 (k (l1 i j)) = kev l2 (k (l2 i j))
    rw [e i j h.1 h.2.1]
    exact ih _ (h.2.2 _)
theorem zip_item {ks vs : Array Value} {ps : List PV} {kv : PV → PV} (hk : ks.toList.map pv = ps.map kv) (hv : vs.toList.map pv = ps) (b : Bool) {i : Nat} (hi : i < ps.length) :
    pv (kas_item (if b then (ks.zip vs).reverse else ks.zip vs) i).1 = kv ((if b then ps.reverse else ps).getD i .none) ∧ pv (kas_item (if b then (ks.zip vs).reverse else ks.zip vs) i).2 = (if b then ps.reverse else ps).getD i .none := by
  have lk : ks.size = ps.length := by have := congrArg List.length hk; simpa using this
  have lv : vs.size = ps.length := by have := congrArg List.length hv; simpa using this
  have base : ∀ j, j < ps.length → ∃ x y, (ks.zip vs)[j]? = some (x, y) ∧ pv x = kv (ps.getD j .none) ∧ pv y = ps.getD j .none := fun j hj => by
    have e1 : (ks.toList.map pv)[j]? = (ps.map kv)[j]? := by rw [hk]
    have e2 : (vs.toList.map pv)[j]? = ps[j]? := by rw [hv]
    have hjk : j < ks.size := lk.symm ▸ hj
    have hjv : j < vs.size := lv.symm ▸ hj
    rw [List.getElem?_map, List.getElem?_map, List.getElem?_eq_getElem hj, Array.getElem?_toList, Array.getElem?_eq_getElem hjk] at e1
    rw [List.getElem?_map, List.getElem?_eq_getElem hj, Array.getElem?_toList, Array.getElem?_eq_getElem hjv] at e2
    have g : ps.getD j .none = ps[j] := by rw [List.getD_eq_getElem?_getD, List.getElem?_eq_getElem hj]; rfl
    refine ⟨ks[j], vs[j], ?_, ?_, ?_⟩
    · rw [Array.getElem?_zip_eq_some]; exact ⟨Array.getElem?_eq_getElem hjk, Array.getElem?_eq_getElem hjv⟩
    · rw [g]; exact Option.some.inj e1
    · rw [g]; exact Option.some.inj e2
  have hz : (ks.zip vs).size = ps.length := by rw [Array.size_zip, lk, lv, Nat.min_self]
  cases b with
  | false =>
    obtain ⟨x, y, e, a, c⟩ := base i hi
    simp only [Bool.false_eq_true, if_false, kas_item, Array.getD_eq_getD_getElem?, e, Option.getD_some]
    exact ⟨a, c⟩
  | true =>
    obtain ⟨x, y, e, a, c⟩ := base (ps.length - 1 - i) (rv_lt hi)
    have e' : (ks.zip vs).reverse[i]? = some (x, y) := by
      rw [Array.getElem?_reverse (hz.symm ▸ hi), hz]; exact e
    have g : ps.reverse.getD i .none = ps.getD (ps.length - 1 - i) .none := by
      rw [List.getD_eq_getElem?_getD, List.getD_eq_getElem?_getD, List.getElem?_reverse hi]
    simp only [if_true, kas_item, Array.getD_eq_getD_getElem?, e', Option.getD_some]
    rw [g]
    exact ⟨a, c⟩
theorem w_kskTail {a t kS : Addr} {b : Bool} {ps qs : List PV} {x : AO} {n : Nat} {st : SortSt} {Q : PySem.Fin → Heap → Prop} (Z : St env h₀ l ((kS, .list qs) :: (t, x) :: (a, .raw (listOf #[] n)) :: cs) h) (hq : qs.length ≤ sizeLine) (hp : ps.length ≤ sizeLine)
    (hs : (if b then ((arrOf st).map (·.2)).reverse else (arrOf st).map (·.2)).toList.map pv = ps) (hf : failedOf st = none)
    (k : ∀ h', St env h₀ l ((a, .list ps) :: cs) h' → Q (.done (.ret .none)) h') : Wp C A (ksk_tail a b n (.ref kS) st) Q h := by
  unfold ksk_tail
  dsimp only
  refine Wp.bind (w_updRaw (cs' := fun x' => (kS, x') :: (t, x) :: (a, .raw (listOf #[] n)) :: cs) Z .here hq (fun _ => .here) fun h1 m Z1 => ?_)
  refine Wp.bind (Wp.letGo ?_)
  refine Wp.bind (w_epoch Z1 (.there (.there .here)) ?_)
  refine Wp.bind (w_updFill Z1 (.there (.there .here)) (.there (.there .here)) hs hp fun h2 Z2 => ?_)
  rw [hf]
  simp only [bne_self_eq_false, Bool.false_eq_true, if_false]
  exact Wp.pure (k h2 (Z2.sub ((List.sublist_cons_self ..).trans (List.sublist_cons_self ..))))
theorem sort_pv {it : Array Keyed} {b : Bool} {ps : List PV} {kv : PV → PV} {lt : PV → PV → Bool} (hn : 0 < ps.length) (hz : it.size = ps.length) (hi : ∀ i, i < ps.length → pv (kas_item it i).2 = (if b then ps.reverse else ps).getD i .none) {st : SortSt}
    (hs : arrOf st = (kev (fun i j => lt (kv ((if b then ps.reverse else ps).getD i .none)) (kv ((if b then ps.reverse else ps).getD j .none))) (kas_sort it.size)).map (kas_item it)) :
    (if b then ((arrOf st).map (·.2)).reverse else (arrOf st).map (·.2)).toList.map pv = sortOut b lt kv ps := by
  have al : AllLt ps.length (kev (fun i j => lt (kv ((if b then ps.reverse else ps).getD i .none)) (kv ((if b then ps.reverse else ps).getD j .none))) (kas_sort ps.length)) := kev_lt hn _ (kp_sort hn)
  have e : ((arrOf st).map (·.2)).toList.map pv = ssort lt kv (if b then ps.reverse else ps) := by
    rw [hs, hz, Array.map_map, Array.toList_map, List.map_map, ssort]
    have el : (if b then ps.reverse else ps).length = ps.length := by cases b <;> simp
    rw [el]
    exact List.map_congr_left fun i m => hi i (al.2 i m)
  cases b with
  | false => simpa only [Bool.false_eq_true, if_false, sortOut] using e
  | true =>
    simp only [if_true, sortOut] at e ⊢
    rw [Array.toList_reverse, List.map_reverse, e]
theorem w_kskEnd {a t kS : Addr} {b : Bool} {ps : List PV} {kv : PV → PV} {lt : PV → PV → Bool} {κ : SortKind} {n : Nat} {x : AO} {items keys : Array Value} {Q : PySem.Fin → Heap → Prop} (Z : St env h₀ l ((kS, .list (ps.map kv)) :: (t, x) :: (a, .raw (listOf #[] n)) :: cs) h) (h2 : 2 ≤ ps.length) (h64 : ps.length < 64)
    (hk : keys.toList.map pv = ps.map kv) (hv : items.toList.map pv = ps) (hkind : ∀ R : SortKind → Heap → Prop, R κ h → Wp C A (keyKind' keys) R h)
    (hlt : ∀ p ∈ ps, ∀ q ∈ ps, ∀ u v, pv u = kv p → pv v = kv q → ∀ R : Bool → Heap → Prop, R (lt (kv p) (kv q)) h → Wp C A (keyLt' κ u v) R h)
    (k : ∀ h', St env h₀ l ((a, .list (sortOut b lt kv ps)) :: cs) h' → Q (.done (.ret .none)) h') : Wp C A (ksk_end a b items n (.ref kS) keys) Q h := by
  have lk : keys.size = ps.length := by have := congrArg List.length hk; simpa using this
  have lv : items.size = ps.length := by have := congrArg List.length hv; simpa using this
  have hz : (if b then (keys.zip items).reverse else keys.zip items).size = ps.length := by cases b <;> simp [lk, lv]
  have zi := fun i hi => zip_item hk hv b (i := i) hi
  have step : ∀ T : Sem PySem.Fin, Wp C A T Q h → Wp C A (if b = true then (do let _ ← rule "list.sort.reverse"; T) else T) Q h := by
    intro T hT
    split
    · exact Wp.bind (Wp.rule hT)
    · exact hT
  unfold ksk_end
  try dsimp only
  refine step _ ?_
  rw [if_neg (by lia), if_neg (by lia)]
  refine Wp.bind (hkind _ ?_)
  generalize (if b then (keys.zip items).reverse else keys.zip items) = it at hz zi
  have mem : ∀ i, i < ps.length → (if b then ps.reverse else ps).getD i .none ∈ ps := fun i hi => by
    have el : i < (if b then ps.reverse else ps).length := by cases b <;> simpa using hi
    rw [List.getD_eq_getElem?_getD, List.getElem?_eq_getElem el]
    have := List.getElem_mem el
    cases b
    · simpa using this
    · simpa using this
  refine Wp.bind (w_runs (lt := fun i j => lt (kv ((if b then ps.reverse else ps).getD i .none)) (kv ((if b then ps.reverse else ps).getD j .none))) (by lia) (by lia) (fun i j hi hj R hR => ?_) fun st hs hf => ?_)
  · rw [hz] at hi hj
    exact hlt _ (mem i hi) _ (mem j hj) _ _ (zi i hi).1 (zi j hj).1 R hR
  · have so : sortOut b lt kv ps = sortOut b lt kv ps := rfl
    refine w_kskTail (ps := sortOut b lt kv ps) Z (by rw [List.length_map]; first | exact szm (by exact Nat.le_of_lt (Nat.lt_of_lt_of_le (by assumption) (by decide))) | exact sz (by exact Nat.le_of_lt (Nat.lt_of_lt_of_le (by assumption) (by decide))) | (simp [sizeLine]; lia)) ?_ (sort_pv (by lia) hz (fun i hi => (zi i hi).2) hs) hf k
    have e := congrArg List.length (sort_pv (b := b) (by lia) hz (fun i hi => (zi i hi).2) hs)
    have e2 : (if b then ((arrOf st).map (·.2)).reverse else (arrOf st).map (·.2)).toList.length = (kev (fun i j => lt (kv ((if b then ps.reverse else ps).getD i .none)) (kv ((if b then ps.reverse else ps).getD j .none))) (kas_sort it.size)).size := by
      cases b <;> simp [hs]
    rw [List.length_map, e2, hz] at e
    rw [← e]
    have al : AllLt ps.length (kev (fun i j => lt (kv ((if b then ps.reverse else ps).getD i .none)) (kv ((if b then ps.reverse else ps).getD j .none))) (kas_sort ps.length)) := kev_lt (by lia) _ (kp_sort (by lia))
    rw [al.1]; first | exact szm (by exact Nat.le_of_lt (Nat.lt_of_lt_of_le (by assumption) (by decide))) | exact sz (by exact Nat.le_of_lt (Nat.lt_of_lt_of_le (by assumption) (by decide))) | (simp [sizeLine]; lia)
theorem w_kskTree {a kf : Addr} {b : Bool} {ps : List PV} {kv : PV → PV} {lt : PV → PV → Bool} {n : Nat} {T : Value} {Q : PySem.Fin → Heap → Prop} (hA : Rm n A) (Z : St env h₀ l ((a, .list ps) :: cs) h) (h2 : 2 ≤ ps.length) (h64 : ps.length < 64)
    (hk : KeyOk C n h₀ (.ref kf) ps kv) (hlt : ∀ h', Keeps h₀ h' → ∀ p ∈ ps, ∀ q ∈ ps, Ltk C A h' (kv p) (kv q) (lt (kv p) (kv q)))
    (hT : ∀ h', Keeps h₀ h' → ∀ p ∈ ps, ∀ u, pv u = kv p → Looks C.M h' (typeOf u) T) (hT1 : (T != Value.type "tuple") = true) (hT2 : (T == T) = true)
    (k : ∀ h', St env h₀ l ((a, .list (sortOut b lt kv ps)) :: cs) h' → Q (.done (.ret .none)) h') : Wp C A (ksk_tree a (.ref kf) b) Q h := by
  unfold ksk_tree
  refine Wp.bind (w_items (Z.get .here) fun vs ev => ?_)
  have hsz : vs.size = ps.length := by rw [← ev, List.length_map]; simp
  have hsl : ps.length ≤ sizeLine := by first | exact szm (by exact Nat.le_of_lt (Nat.lt_of_lt_of_le (by assumption) (by decide))) | exact sz (by exact Nat.le_of_lt (Nat.lt_of_lt_of_le (by assumption) (by decide))) | (simp [sizeLine]; lia)
  refine Wp.bind (w_updRaw (cs' := fun x' => (a, x') :: cs) Z .here hsl (fun _ => .here) fun h1 m Z1 => ?_)
  refine Wp.bind (w_epoch Z1 .here ?_)
  refine Wp.bind (w_newTuple Z1 (by first | exact szm (by exact Nat.le_of_lt (Nat.lt_of_lt_of_le (by assumption) (by decide))) | exact sz (by lia) | (simp [sizeLine]; lia)) fun t h2' Z2 => ?_)
  refine Wp.bind (w_newList Z2 (by simp) fun kS h3 Z3 => ?_)
  refine Wp.holding ?_
  unfold ksk_rest
  refine Wp.bind (Wp.rule ?_)
  rw [← Array.forIn_toList]
  refine Wp.bind (w_forList (fun i h => St env h₀ l ((kS, .list ((ps.take i).map kv)) :: (t, .tup (vs.toList.map pv)) :: (a, .raw (listOf #[] m)) :: cs) h) vs.toList 0 h3 (by simpa using Z3) (fun j x h' hx hI => ?_) fun h' hI => ?_)
  · rw [Nat.zero_add] at hI ⊢
    have hp : ps[j]? = some (pv x) := by rw [← ev, List.getElem?_map, hx]; rfl
    refine Wp.bind (Wp.attempt (hk A h' x _ hA hI.keep (List.mem_of_getElem? hp) rfl _ fun w h4 kp hw => ?_))
    dsimp only
    have hj : j < ps.length := (List.getElem?_eq_some_iff.mp hp).1
    refine Wp.bind (w_updSeq (hI.keeps kp) .here .here (ps' := (ps.take (j + 1)).map kv) (fun us hu => ?_) (by first | exact szm (by lia) | exact sz (by lia) | (simp [sizeLine]; lia)) (by first | exact szm (by exact Nat.le_of_lt (Nat.lt_of_lt_of_le (by assumption) (by decide))) | exact sz (by exact Nat.zero_le _) | (simp [sizeLine]; lia)) fun h5 Z5 => Wp.pure ⟨rfl, Z5⟩)
    rw [Array.toList_push, List.map_append, hu, List.take_add_one, hp]
    simp [hw]
  · rw [Nat.zero_add, Array.length_toList, hsz, List.take_length] at hI
    refine Wp.bind (w_items (hI.get .here) fun keys hkeys => ?_)
    refine w_kskEnd hI h2 h64 hkeys ev (κ := oneType') (fun R hR => ?_) (fun p hp q hq u v hu hv R hR => ?_) k
    · have := Wp.keyKind (C := C) (A := A) (h := h') (vs := keys.toList) (T := T) (Q := R) ?_ (fun v hv => ?_) hT1 hT2 hR
      · simpa using this
      · have := congrArg List.length hkeys
        simp at this
        rw [Array.length_toList, this]; exact h2
      · have : pv v ∈ ps.map kv := by rw [← hkeys]; exact List.mem_map_of_mem hv
        obtain ⟨p, hp, e⟩ := List.mem_map.mp this
        exact hT h' hI.keep p hp v e.symm
    · rw [keyLt'_oneType]
      exact hlt h' hI.keep p hp q hq u v hu hv R hR
end

section
variable {C : Cx} {A : Around} {h h₀ h' : Heap} {env : Env} {l l' : List (Str × Option PV)} {cs cs' ds : List (Addr × AO)} {K : Frag}
theorem w_callSlotKw {T id : String} {name : Str} {self : Value} {rest : List Value} {kw : List (Str × Value)} {b : Builtin} {Q : Value → Heap → Prop} (sl : Slot T name id) (hT : ∀ t, (C.st h t).TypeIs self T) (hb : entryFor table id = some b) (ha : argsOk id ⟨self :: rest, kw⟩)
    (x : Wp C A.in1 (b ⟨self :: rest, kw⟩) (fun fin h' => ∃ v, fin = .done (.ret v) ∧ Q v h') h) : Wp C A (call (.builtin id) (self :: rest) kw) Q h := fun t =>
  wpAny_call_entry_kw sl (hT t) hb (wpAny_mono (x t) (fun _ _ q => by obtain ⟨h', t', e, v, ef, q⟩ := q; exact ⟨v, ef, h', t', e, q⟩) fun _ _ z => z) ha
theorem own_ref {a : Addr} {ps : List PV} (o : Own h a (.list ps)) : ∀ t, (C.st h t).TypeIs (.ref a) "list" := fun t => by
  obtain ⟨vs, n, eo, ev⟩ := own_list o
  exact ⟨_, eo, rfl⟩
theorem w_sortedKey {a kf : Addr} {b : Bool} {kw : List (Str × Value)} {ps : List PV} {kv : PV → PV} {lt : PV → PV → Bool} {n : Nat} {T : Value} {Q : Value → Heap → Prop} (hA : Rm (n + 2) A) (Z : St env h₀ l cs h) (o : Own h a (.list ps)) (h2 : 2 ≤ ps.length) (h64 : ps.length < 64)
    (ha1 : argsOk "sorted" ⟨[.ref a], kw⟩) (ha2 : ∀ x, argsOk "list.sort" ⟨[.ref x], kw⟩) (ht : ∀ x, Builtin.«list.sort» ⟨[.ref x], kw⟩ = ksk_tree x (.ref kf) b)
    (hk : KeyOk C n h₀ (.ref kf) ps kv) (hlt : ∀ h', Keeps h₀ h' → ∀ p ∈ ps, ∀ q ∈ ps, Ltk C A.in1.in1 h' (kv p) (kv q) (lt (kv p) (kv q)))
    (hT : ∀ h', Keeps h₀ h' → ∀ p ∈ ps, ∀ u, pv u = kv p → Looks C.M h' (typeOf u) T) (hT1 : (T != Value.type "tuple") = true) (hT2 : (T == T) = true)
    (k : ∀ r h', St env h₀ l ((r, .list (sortOut b lt kv ps)) :: cs) h' → Q (.ref r) h') : Wp C A (call (.builtin "sorted") [.ref a] kw) Q h := by
  have hsl : ps.length ≤ sizeLine := by first | exact szm (by exact Nat.le_of_lt (Nat.lt_of_lt_of_le (by assumption) (by decide))) | exact sz (by exact Nat.le_of_lt (Nat.lt_of_lt_of_le (by assumption) (by decide))) | (simp [sizeLine]; lia)
  refine w_call_function kind_sorted plain_sorted entry_sorted ha1 ?_
  unfold Builtin.«sorted»
  refine Wp.bind (T := checkCount "sorted" 1 1 _) (Wp.pure ?_)
  refine Wp.bind (w_collect Z o hsl fun vs h1 ev Z1 => ?_)
  refine Wp.bind (w_newList Z1 (by rw [← List.length_map (f := pv), ev]; exact hsl) fun r h2' Z2 => ?_)
  rw [ev] at Z2
  refine Wp.bind (Wp.holding (w_callSlotKw slot_list_sort (own_ref (Z2.get .here)) entry_list_sort (ha2 r) ?_))
  show Wp C A.in1.in1 (Builtin.«list.sort» ⟨[.ref r], kw⟩) _ _
  rw [ht]
  exact w_kskTree hA.in1.in1 Z2 h2 h64 hk hlt hT hT1 hT2 fun h3 Z3 => ⟨_, rfl, Wp.pure ⟨_, rfl, k r h3 Z3⟩⟩
theorem w_sortTree {a : Addr} {b : Bool} {ps : List PV} {lt : PV → PV → Bool} {κ : SortKind} {Q : Value → Heap → Prop} (Z : St env h₀ l ((a, .list ps) :: cs) h) (h2 : 2 ≤ ps.length) (h64 : ps.length < 64)
    (hkind : ∀ h', St env h₀ l ((a, .list []) :: cs) h' → ∀ keys : Array Value, keys.toList.map pv = ps → ∀ R : SortKind → Heap → Prop, R κ h' → Wp C A.in1 (keyKind' keys) R h')
    (hlt : ∀ h', St env h₀ l ((a, .list []) :: cs) h' → ∀ p ∈ ps, ∀ q ∈ ps, ∀ u v, pv u = p → pv v = q → ∀ R : Bool → Heap → Prop, R (lt p q) h' → Wp C A.in1 (keyLt' κ u v) R h')
    (k : ∀ h', St env h₀ l ((a, .list (sortOut b lt id ps)) :: cs) h' → Q .none h') : Wp C A.in1 (Builtin.«list.sort» ⟨[.ref a], [("reverse", .bool b)]⟩) (fun fin h' => ∃ v, fin = .done (.ret v) ∧ Q v h') h := by
  have hsl : ps.length ≤ sizeLine := by first | exact szm (by exact Nat.le_of_lt (Nat.lt_of_lt_of_le (by assumption) (by decide))) | exact sz (by exact Nat.le_of_lt (Nat.lt_of_lt_of_le (by assumption) (by decide))) | (simp [sizeLine]; lia)
  rw [list_sort_rev]
  refine Wp.bind (w_items (Z.get .here) fun vs ev => ?_)
  have hsz : vs.size = ps.length := by rw [← ev, List.length_map]; simp
  refine Wp.bind (w_updRaw (cs' := fun x' => (a, x') :: cs) Z .here hsl (fun _ => .here) fun h1 m Z1 => ?_)
  refine Wp.bind (w_epoch Z1 .here ?_)
  refine Wp.bind (w_newTuple Z1 (by first | exact szm (by exact Nat.le_of_lt (Nat.lt_of_lt_of_le (by assumption) (by decide))) | exact sz (by lia) | (simp [sizeLine]; lia)) fun t h2' Z2 => ?_)
  refine Wp.bind (w_newList Z2 (by simp) fun kS h3 Z3 => ?_)
  refine Wp.holding ?_
  have Z4 : St env h₀ l ((a, .list []) :: cs) h3 := by
    have Z5 := Z3.sub ((List.sublist_cons_self ..).trans (List.sublist_cons_self ..))
    refine Z5.upd (cs := (a, .raw (listOf #[] m)) :: cs) .here ⟨rfl, fun _ _ => rfl⟩ ?_
    obtain ⟨ob, eo, ed⟩ := Z5.get .here
    exact ⟨_, by rw [eo]; exact congrArg some ed, #[], m, rfl, rfl⟩
  have step : ∀ T : Sem PySem.Fin, Wp C A.in1 T (fun fin h' => ∃ v, fin = .done (.ret v) ∧ Q v h') h3 → Wp C A.in1 (if b = true then (do let _ ← rule "list.sort.reverse"; T) else T) (fun fin h' => ∃ v, fin = .done (.ret v) ∧ Q v h') h3 := by
    intro T hT
    split
    · exact Wp.bind (Wp.rule hT)
    · exact hT
  try dsimp only
  refine step _ ?_
  have hz : (if b then (vs.zip vs).reverse else vs.zip vs).size = ps.length := by cases b <;> simp [hsz]
  have zi := fun i hi => zip_item (kv := id) (by rw [ev]; simp) ev b (i := i) hi
  rw [if_neg (by lia), if_neg (by lia)]
  refine Wp.bind (hkind h3 Z4 vs ev _ ?_)
  generalize (if b then (vs.zip vs).reverse else vs.zip vs) = it at hz zi
  have mem : ∀ i, i < ps.length → (if b then ps.reverse else ps).getD i .none ∈ ps := fun i hi => by
    have el : i < (if b then ps.reverse else ps).length := by cases b <;> simpa using hi
    rw [List.getD_eq_getElem?_getD, List.getElem?_eq_getElem el]
    have := List.getElem_mem el
    cases b
    · simpa using this
    · simpa using this
  refine Wp.bind (w_runs (lt := fun i j => lt (id ((if b then ps.reverse else ps).getD i .none)) (id ((if b then ps.reverse else ps).getD j .none))) (by lia) (by lia) (fun i j hi hj R hR => ?_) fun st hs hf => ?_)
  · rw [hz] at hi hj
    exact hlt h3 Z4 _ (mem i hi) _ (mem j hj) _ _ (zi i hi).1 (zi j hj).1 R hR
  · have so := sort_pv (b := b) (kv := id) (by lia) hz (fun i hi => (zi i hi).2) hs
    have e2 : (if b then ((arrOf st).map (·.2)).reverse else (arrOf st).map (·.2)).toList.length = ps.length := by
      have al : AllLt it.size (kev (fun i j => lt (id ((if b then ps.reverse else ps).getD i .none)) (id ((if b then ps.reverse else ps).getD j .none))) (kas_sort it.size)) := kev_lt (by lia) _ (kp_sort (by lia))
      have := al.1
      cases b <;> simp [hs] <;> (rw [← hz]; simpa using this)
    refine Wp.bind (w_epoch Z3 (.there (.there .here)) ?_)
    refine Wp.bind (w_updFill Z3 (.there (.there .here)) (.there (.there .here)) so (by rw [← so, List.length_map, e2]; exact hsl) fun h5 Z5 => ?_)
    rw [hf]
    simp only [bne_self_eq_false, Bool.false_eq_true, if_false]
    exact Wp.pure ⟨_, rfl, k h5 (Z5.sub ((List.sublist_cons_self ..).trans (List.sublist_cons_self ..)))⟩
theorem sort_false (a : Addr) : Builtin.«list.sort» ⟨[.ref a], []⟩ = Builtin.«list.sort» ⟨[.ref a], [("reverse", .bool false)]⟩ := by
  rw [list_sort_plain, list_sort_rev]
  rfl
theorem w_sortRev {a : Addr} {b : Bool} {ps : List PV} {lt : PV → PV → Bool} {κ : SortKind} {Q : Value → Heap → Prop} (Z : St env h₀ l ((a, .list ps) :: cs) h) (h2 : 2 ≤ ps.length) (h64 : ps.length < 64)
    (hkind : ∀ h', St env h₀ l ((a, .list []) :: cs) h' → ∀ keys : Array Value, keys.toList.map pv = ps → ∀ R : SortKind → Heap → Prop, R κ h' → Wp C A.in1 (keyKind' keys) R h')
    (hlt : ∀ h', St env h₀ l ((a, .list []) :: cs) h' → ∀ p ∈ ps, ∀ q ∈ ps, ∀ u v, pv u = p → pv v = q → ∀ R : Bool → Heap → Prop, R (lt p q) h' → Wp C A.in1 (keyLt' κ u v) R h')
    (k : ∀ h', St env h₀ l ((a, .list (sortOut b lt id ps)) :: cs) h' → Q .none h') : Wp C A (call (.builtin "list.sort") [.ref a] [("reverse", .bool b)]) Q h :=
  w_callSlotKw slot_list_sort (own_ref (Z.get .here)) entry_list_sort (args_list_sort_rev _ _) (w_sortTree Z h2 h64 hkind hlt k)
theorem w_sortPlain {a : Addr} {ps : List PV} {lt : PV → PV → Bool} {κ : SortKind} {Q : Value → Heap → Prop} (Z : St env h₀ l ((a, .list ps) :: cs) h) (h2 : 2 ≤ ps.length) (h64 : ps.length < 64)
    (hkind : ∀ h', St env h₀ l ((a, .list []) :: cs) h' → ∀ keys : Array Value, keys.toList.map pv = ps → ∀ R : SortKind → Heap → Prop, R κ h' → Wp C A.in1 (keyKind' keys) R h')
    (hlt : ∀ h', St env h₀ l ((a, .list []) :: cs) h' → ∀ p ∈ ps, ∀ q ∈ ps, ∀ u v, pv u = p → pv v = q → ∀ R : Bool → Heap → Prop, R (lt p q) h' → Wp C A.in1 (keyLt' κ u v) R h')
    (k : ∀ h', St env h₀ l ((a, .list (sortOut false lt id ps)) :: cs) h' → Q .none h') : Wp C A (call (.builtin "list.sort") [.ref a]) Q h :=
  w_callSlotKw slot_list_sort (own_ref (Z.get .here)) entry_list_sort (PyProof.Rows.args_list_sort _) (by rw [sort_false]; exact w_sortTree Z h2 h64 hkind hlt k)
structure KeyTy (C : Cx) (n : Nat) (base : Heap) (ks : PV → Prop) (e lt : PV → PV → Bool) (T : Value) : Prop where
  cEq : ∀ (A : Around) (h : Heap), Rm n A → Keeps base h → ∀ p q, ks p → ks q → Eqb C A h p q (e p q)
  cLt : ∀ (A : Around) (h : Heap), Rm n A → Keeps base h → ∀ p q, ks p → ks q → Cm C A h .Lt p q (lt p q)
  cGt : ∀ (A : Around) (h : Heap), Rm n A → Keeps base h → ∀ p q, ks p → ks q → Cm C A h .Gt p q (lt q p)
  one : ∀ (A : Around) (h : Heap), Rm n A → Keeps base h → ∀ p q, ks p → ks q → Ltk C A h p q (lt p q)
  ty : ∀ (h : Heap), Keeps base h → ∀ p u, ks p → pv u = p → Looks C.M h (typeOf u) T
  ntup : (T != Value.type "tuple") = true
  self : (T == T) = true
  lin : ∀ p q, ks p → ks q → e p q = (!lt p q && !lt q p)
  asym : ∀ p q, ks p → ks q → lt p q = true → lt q p = false
  trans : ∀ p q r, ks p → ks q → ks r → lt q p = false → lt r q = false → lt r p = false
inductive LexT (C : Cx) (A : Around) (h : Heap) : List PV → List PV → Bool → Prop
  | nil {qs} : LexT C A h [] qs (decide (0 < qs.length))
  | nil2 {p ps} : LexT C A h (p :: ps) [] false
  | eq {p ps q qs b} : Eqb C A h p q true → LexT C A h ps qs b → LexT C A h (p :: ps) (q :: qs) b
  | ne {p ps q qs b} : Eqb C A h p q false → Cm C A h .Lt p q b → LexT C A h (p :: ps) (q :: qs) b
theorem w_lexLoop {R : Option PySem.Fin × Unit → Heap → Prop} {body : Value × Value → Option PySem.Fin × Unit → Sem (ForInStep (Option PySem.Fin × Unit))}
    (hb : ∀ x y (R' : ForInStep (Option PySem.Fin × Unit) → Heap → Prop), Wp C A (eqBool x y) (fun c h' => if c = true then R' (.yield (none, ())) h' else Wp C A (PySem.richCompare .Lt x y) (fun v h'' => R' (.done (some (.done (.ret v)), ())) h'') h') h → Wp C A (body (x, y) (none, ())) R' h) :
    ∀ (vs ws : List Value) (b : Bool), LexT C A h (vs.map pv) (ws.map pv) b → (b = decide (vs.length < ws.length) → R (none, ()) h) → (R (some (.done (.ret (.bool b))), ()) h) → Wp C A (forIn (vs.zip ws) (none, ()) body) R h
  | [], ws, b, x, k1, k2 => by
    rw [List.zip_nil_left, List.forIn_nil]
    refine Wp.pure (k1 ?_)
    cases x; simp
  | v :: vs, [], b, x, k1, k2 => by
    rw [List.zip_nil_right, List.forIn_nil]
    refine Wp.pure (k1 ?_)
    cases x; simp
  | v :: vs, w :: ws, b, x, k1, k2 => by
    rw [List.zip_cons_cons, List.forIn_cons]
    cases x with
    | eq he hr =>
      refine Wp.bind (hb v w _ (he v w rfl rfl _ ?_))
      rw [if_pos rfl]
      exact w_lexLoop hb vs ws b hr (fun z => k1 (by rw [z]; simp)) k2
    | ne he hl =>
      refine Wp.bind (hb v w _ (he v w rfl rfl _ ?_))
      rw [if_neg Bool.false_ne_true]
      exact hl v w rfl rfl _ (Wp.pure k2)
theorem c_lt_tupX {a b : Addr} {ps qs : List PV} {r : Bool} (hu : A.units < cLine) (o1 : Own h a (.tup ps)) (o2 : Own h b (.tup qs)) (x : LexT C A.in1 h ps qs r) : Cm C A h .Lt (.ref a) (.ref b) r := fun u v hu' hv Q k t => by
  obtain rfl := pv_ref hu'
  obtain rfl := pv_ref hv
  obtain ⟨vs, n, eo, ev⟩ := own_tup o1
  obtain ⟨ws, n2, eo2, ew⟩ := own_tup o2
  show wpAny _ _ (PySem.richCompare .Lt _ _) _ _ _
  refine wpAny_richCompare_same_room ⟨_, eo, rfl⟩ ⟨_, eo2, rfl⟩ PySem.F.slot_tuple_lt ?_ hu
  refine (Wp.call (cp_call_slot (Q := fun fl h' => ∃ v, fl = .ret v ∧ (v = .bool r ∧ h' = h)) (self := .ref a) PySem.F.slot_tuple_lt (fun t => ⟨_, eo, rfl⟩) PySem.F.entry_tuple_lt (PySem.F.args_tuple_lt_2 _ _) ?_)).seq t fun v h' t' q => by
    obtain ⟨rfl, rfl⟩ := q
    exact ⟨(fun z => nomatch z), _, _, rfl, k⟩
  show Wp C A.in1 (PySem.isInstance (.ref b) (.type "tuple") >>= _) _ h
  have sub : isSubtype (.type "tuple") (.type "tuple") = Pure.pure true := AutoSeq1.sub_tuple_tuple
  refine Wp.bind (show Wp C A.in1 (PySem.isInstance (.ref b) (.type "tuple")) _ h from fun t => wpAny_isInstance (b := true) (T := "tuple") (U := "tuple") ⟨_, eo2, rfl⟩ sub ⟨h, t, rfl, ?_⟩)
  rw [if_neg (by exact Bool.false_ne_true)]
  have it : ∀ {a : Addr} {vs : Array Value} {n : Nat} (eo : h.get? a = some ⟨.type "tuple", none, .seq vs n, #[]⟩) (R : Array Value → Heap → Prop), R vs h → Wp C A.in1 (Builtin.Tuple.tupleItemsOf (.ref a)) R h := fun eo R k => by
    unfold Builtin.Tuple.tupleItemsOf
    refine Wp.bind ?_
    unfold seqItems?
    exact Wp.bind (Wp.load eo (Wp.pure (Wp.pure k)))
  refine Wp.bind (it eo _ (Wp.bind (it eo2 _ (Wp.bind ?_))))
  refine w_lexLoop (fun x y R' hx => ?_) vs.toList ws.toList r (by rw [ev, ew]; exact x) (fun z => ?_) ?_
  · refine Wp.bind (hx.mono fun c h' q => ?_)
    cases c with
    | true =>
      rw [if_pos rfl] at q
      exact Wp.pure q
    | false =>
      rw [if_neg Bool.false_ne_true] at q
      exact Wp.bind (Wp.rule (Wp.bind (q.mono fun v h'' q2 => Wp.bind (Wp.pure (Wp.pure q2)))))
  · refine Wp.pure ⟨_, rfl, ?_, rfl⟩
    rw [z]
    show Value.bool (decide (vs.size < ws.size)) = _
    simp
  · exact Wp.pure ⟨_, rfl, rfl, rfl⟩
noncomputable def tri (k : PV) (i e : Int) : AO := .tup [k, .int i, .int e]
noncomputable def ltT (e lt : PV → PV → Bool) (k1 : PV) (i1 e1 : Int) (k2 : PV) (i2 e2 : Int) : Bool := if e k1 k2 then (if i1 = i2 then decide (e1 < e2) else decide (i1 < i2)) else lt k1 k2
theorem own_tri {a : Addr} {k : PV} {i e : Int} (o : Own h a (tri k i e)) : ∃ u t1 t2 n, h.get? a = some ⟨.type "tuple", none, .seq #[u, .int i t1, .int e t2] n, #[]⟩ ∧ pv u = k := by
  obtain ⟨vs, n, eo, ev⟩ := own_tup o
  obtain ⟨u, v, w, hv⟩ : ∃ u v w, vs.toList = [u, v, w] := by
    have := congrArg List.length ev
    rcases hv : vs.toList with _ | ⟨u, _ | ⟨v, _ | ⟨w, _ | ⟨x, r⟩⟩⟩⟩ <;> rw [hv] at this <;> simp at this
    exact ⟨u, v, w, rfl⟩
  rw [hv] at ev
  simp only [List.map_cons, List.map_nil, List.cons.injEq, and_true] at ev
  obtain ⟨e1, e2, e3⟩ := ev
  obtain ⟨t1, rfl⟩ := pv_int e2
  obtain ⟨t2, rfl⟩ := pv_int e3
  have : vs = #[u, .int i t1, .int e t2] := Array.toList_inj.mp hv
  exact ⟨u, t1, t2, n, by rw [eo, this], e1⟩
theorem lex_tri {n : Nat} {ks : PV → Prop} {e lt : PV → PV → Bool} {T : Value} (X : KeyTy C n h₀ ks e lt T) (hA : Rm n A) (kp : Keeps h₀ h) {k1 k2 : PV} {i1 i2 e1 e2 : Int} (s1 : ks k1) (s2 : ks k2) :
    LexT C A h [k1, .int i1, .int e1] [k2, .int i2, .int e2] (ltT e lt k1 i1 e1 k2 i2 e2) := by
  have q1 := X.cEq A h hA kp k1 k2 s1 s2
  have q2 : Eqb C A h (.int i1) (.int i2) (decide (i1 = i2)) := eqb_int
  have q3 : Eqb C A h (.int e1) (.int e2) (decide (e1 = e2)) := eqb_int
  have l1 := X.cLt A h hA kp k1 k2 s1 s2
  unfold ltT
  cases c1 : e k1 k2 with
  | false =>
    rw [c1] at q1
    rw [if_neg Bool.false_ne_true]
    exact .ne q1 l1
  | true =>
    rw [c1] at q1
    rw [if_pos rfl]
    refine .eq q1 ?_
    by_cases c2 : i1 = i2
    · rw [if_pos c2]
      rw [decide_eq_true c2] at q2
      refine .eq q2 ?_
      by_cases c3 : e1 = e2
      · rw [decide_eq_true c3] at q3
        have : decide (e1 < e2) = decide (0 < ([] : List PV).length) := by simp [c3]
        rw [this]
        exact .eq q3 .nil
      · rw [decide_eq_false c3] at q3
        exact .ne q3 c_lt
    · rw [if_neg c2]
      rw [decide_eq_false c2] at q2
      exact .ne q2 c_lt
theorem c_lt_tri {n : Nat} {ks : PV → Prop} {e lt : PV → PV → Bool} {T : Value} (X : KeyTy C n h₀ ks e lt T) (hA : Rm (n + 1) A) (kp : Keeps h₀ h) {a b : Addr} {k1 k2 : PV} {i1 i2 e1 e2 : Int} (s1 : ks k1) (s2 : ks k2) (o1 : Own h a (tri k1 i1 e1)) (o2 : Own h b (tri k2 i2 e2)) :
    Cm C A h .Lt (.ref a) (.ref b) (ltT e lt k1 i1 e1 k2 i2 e2) := c_lt_tupX (by have := hA.u; simp [cLine]; lia) o1 o2 (lex_tri X hA.in1 kp s1 s2)
theorem kl_tri {n : Nat} {ks : PV → Prop} {e lt : PV → PV → Bool} {T : Value} (X : KeyTy C n h₀ ks e lt T) (hA : Rm n A) (kp : Keeps h₀ h) {a b : Addr} {k1 k2 : PV} {i1 i2 e1 e2 : Int} (s1 : ks k1) (s2 : ks k2) (o1 : Own h a (tri k1 i1 e1)) (o2 : Own h b (tri k2 i2 e2)) {R : Bool → Heap → Prop}
    (k : R (ltT e lt k1 i1 e1 k2 i2 e2) h) : Wp C A (keyLt' (tuples' true) (.ref a) (.ref b)) R h := fun t => by
  obtain ⟨u1, t1, t2, n1, g1, p1⟩ := own_tri o1
  obtain ⟨u2, t3, t4, n2, g2, p2⟩ := own_tri o2
  refine kat_lt g1 rfl g2 rfl ?_
  have one : ∀ (p q : Value) (c : Bool) (P : Bool → Heap → Prop) (t : Nat), Cm C A h .Lt (pv p) (pv q) c → P c h → wpAny (model C.prog C.w) A (oneLt' false p q) (fun r s => ∃ h' t', s = C.st h' t' ∧ P r h') (fun _ _ => False) (C.st h t) := fun p q c P t hc hp =>
    kat_one p q ((hc p q rfl rfl (fun v h' => v = .bool c ∧ h' = h) ⟨rfl, rfl⟩).seq t fun v h' t' z => by
      obtain ⟨rfl, rfl⟩ := z
      exact ⟨_, _, rfl, hp⟩)
  have stepE : ∀ (p q : Value) (c b' : Bool) (r : List (Value × Value)) (i t : Nat), Eqb C A h (pv p) (pv q) c → (∀ t, KatGo C.prog C.w A true b' (fun r s => ∃ h' t', s = C.st h' t' ∧ R r h') p q r i c (C.st h t)) →
      KatLex C.prog C.w A true b' (fun r s => ∃ h' t', s = C.st h' t' ∧ R r h') ((p, q) :: r) i (C.st h t) := fun p q c b' r i t he kk =>
    kat_cons ((he p q rfl rfl (fun v h' => v = c ∧ h' = h) ⟨rfl, rfl⟩).seq t fun v h' t' z => by
      obtain ⟨rfl, rfl⟩ := z
      exact kk t')
  have q1 := X.cEq A h hA kp k1 k2 s1 s2
  have l1 := X.one A h hA kp k1 k2 s1 s2
  unfold ltT at k
  refine stepE u1 u2 (e k1 k2) _ _ 0 t (by rw [p1, p2]; exact q1) fun t => ?_
  cases c1 : e k1 k2 with
  | false =>
    rw [c1, if_neg Bool.false_ne_true] at k
    exact kat_no (l1 u1 u2 p1 p2 R k t)
  | true =>
    rw [c1, if_pos rfl] at k
    refine kat_yes (stepE _ _ (decide (i1 = i2)) _ _ 1 t eqb_int fun t => ?_)
    by_cases c2 : i1 = i2
    · rw [if_pos c2] at k
      rw [decide_eq_true c2]
      refine kat_yes (stepE _ _ (decide (e1 = e2)) _ _ 2 t eqb_int fun t => ?_)
      by_cases c3 : e1 = e2
      · rw [decide_eq_true c3]
        refine kat_yes (kat_nil ⟨_, _, rfl, ?_⟩)
        rw [decide_eq_false (by lia)] at k
        exact k
      · rw [decide_eq_false c3]
        exact kat_no (one _ _ _ R t c_lt k)
    · rw [if_neg c2] at k
      rw [decide_eq_false c2]
      exact kat_no (one _ _ _ R t c_lt k)
end

noncomputable def codO (qual : Str) : AO := .obj fun o => ∃ vs t, o.data = .fields vs ∧ vs[1]? = some (.str qual t)
structure Lm (h : Heap) (c P : Addr) : Prop where
  code : CodeHd h c P
  glob : ∃ mg bm ob, h.Ns mainGlobals mg ∧ mg "__builtins__" = some (.ref bm) ∧ bm ≠ builtinsNs ∧ bm ≠ mainGlobals ∧ h.get? bm = some ob ∧ ob.cls = .type "module" ∧ ob.dict = some builtinsNs ∧ ob.data = .plain
theorem Lm.keeps {h h' : Heap} {c P : Addr} (x : Lm h c P) (k : Keeps h h') : Lm h' c P := by
  obtain ⟨a, mg, bm, ob, g, h1, h2, h3, h4, h5⟩ := x
  exact ⟨a.keeps k, mg, bm, ob, g.keeps k, h1, h2, h3, k _ _ h4, h5⟩
section
variable {C : Cx} {A : Around} {h h₀ h' : Heap} {env : Env} {l l' : List (Str × Option PV)} {cs cs' ds : List (Addr × AO)} {K : Frag}
theorem St.extSet (Z : St env h₀ l cs h) {a : Addr} {x : AO} (c : CSet a x cs cs') (hs : Heap.ExtBut a h h') (ho : Own h' a x) : St env h₀ l cs' h' := by
  have neL : a ≠ env.locals := fun e => by
    have := c.key
    rw [e] at this
    exact (List.nodup_cons.mp Z.nd).1 this
  have fr : h₀.get? a = none := by
    obtain ⟨⟨b, y⟩, m, e⟩ := List.mem_map.mp c.key
    cases e
    exact Z.fresh _ m
  refine ⟨?_, Z.lk, fun b o e => ?_, Z.low, fun p hp => ?_, fun p hp => ?_, by rw [c.keys]; exact Z.nd⟩
  · obtain ⟨m, n, r⟩ := Z.loc
    exact ⟨m, n.extBut hs neL.symm, r⟩
  · exact hs b o (fun z => by rw [z, fr] at e; cases e) (Z.keep b o e)
  · rcases c.mem (List.nodup_cons.mp Z.nd).2 (b := p.1) (y := p.2) hp with ⟨e1, e2⟩ | ⟨ne, m⟩
    · rw [e1, e2]; exact ho
    · obtain ⟨o, eo, d⟩ := Z.own _ m
      exact ⟨o, hs _ _ ne eo, d⟩
  · have : p.1 ∈ cs.map (·.1) := by rw [← c.keys]; exact List.mem_map.mpr ⟨p, hp, rfl⟩
    obtain ⟨q, m, e⟩ := List.mem_map.mp this
    rw [← e]; exact Z.fresh _ m
theorem St.fresh_ge (Z : St env h₀ l cs h) {a : Addr} (ha : h.objs.size ≤ a) : h₀.get? a = none ∧ a ∉ env.locals :: cs.map (·.1) := by
  have nn : h.get? a = none := Heap.get?_none_of_le ha
  refine ⟨?_, fun m => ?_⟩
  · cases q : h₀.get? a with
    | none => rfl
    | some o => have := Z.keep _ _ q; rw [nn] at this; cases this
  · rcases List.mem_cons.mp m with e | e
    · obtain ⟨o, eo⟩ := get_locals Z
      rw [← e, nn] at eo; cases eo
    · obtain ⟨p, hp, e⟩ := List.mem_map.mp e
      obtain ⟨o, eo, _⟩ := Z.own _ hp
      rw [e, nn] at eo; cases eo
theorem St.more (Z : St env h₀ l cs h) {a : Addr} {x : AO} (o : Own h a x) (f : h₀.get? a = none) (n : a ∉ env.locals :: cs.map (·.1)) : St env h₀ l ((a, x) :: cs) h := by
  refine ⟨Z.loc, Z.lk, Z.keep, Z.low, fun p hp => ?_, fun p hp => ?_, ?_⟩
  · rcases List.mem_cons.mp hp with rfl | hp
    · exact o
    · exact Z.own p hp
  · rcases List.mem_cons.mp hp with rfl | hp
    · exact f
    · exact Z.fresh p hp
  · have nd := List.nodup_cons.mp Z.nd
    exact List.nodup_cons.mpr ⟨fun m => by
      rcases List.mem_cons.mp m with e | e
      · exact n (e ▸ List.mem_cons_self ..)
      · exact nd.1 e, List.nodup_cons.mpr ⟨fun m => n (.tail _ m), nd.2⟩⟩
theorem w_lambda {params : Arguments} {body : Expr} {scope : Scope} {pos : Pos} {clos : List (Str × Addr)} {P c : Addr} {ps : Array Value} {cs' : AO → List (Addr × AO)} {Q : Value → Heap → Prop} (Z : St env h₀ l cs h) (X : Lm h₀ c P) (a : CAt cs P (.raw (tabObj ps))) (b : ∀ x, CSet P x cs (cs' x))
    (hc : env.code = .ref c) (hg : env.globals = mainGlobals) (hdef : defaultsOf params env = ([], [])) (hcl : closureFor scope env = Pure.pure clos) (ht : TriplesOk ps.toList) (hnf : codeAmong pos ps.toList = none)
    (k : ∀ f c' pm ctv h', St env h₀ l ((f, .raw (kla_obj "<lambda>" (env.qual ++ "<lambda>") params body scope clos pm c' ctv)) :: (c', codO (env.qual ++ "<lambda>")) :: cs' (.raw (tabObj (ps ++ #[rawInt pos.line, rawInt pos.col, .ref c'])))) h' → Q (.ref f) h') :
    Wp C A (eval (.Lambda params body scope pos) env) Q h := fun t => by
  obtain ⟨mg, bm, ob, g, h1, h2, h3, h4, h5⟩ := (X.keeps Z.keep).glob
  obtain ⟨o, eo, ed⟩ := Z.get a
  have eo : h.get? P = some (tabObj ps) := by rw [eo]; exact congrArg some ed
  have hP0 : h₀.get? P = none := Z.fresh _ a.mem
  have hbP : bm ≠ P := fun q => by
    rw [q, eo] at h4
    cases h4
    cases h5.1
  have hgP : mainGlobals ≠ P := fun q => by
    obtain ⟨o, es, ep, e, hd, _⟩ := g
    rw [q, eo] at e; cases e; cases hd
  refine kla_eval hdef (kla_makeFunction (mg := mg) hcl hg g hc (X.code.keeps Z.keep) eo ht hnf hgP ⟨bm, ob, h1, h2, h3, hbP, h4, h5⟩ fun c' ctv h' tk hx hge hlt hrec htb => ⟨_, _, rfl, k h'.objs.size c' ((mg "__name__").getD .none) ctv _ ?_⟩)
  obtain ⟨c₂, oc, vs, t, e2, hoc, hd, hv⟩ := hrec
  cases e2
  have Z1 := Z.extSet (b (.raw (tabObj (ps ++ #[rawInt pos.line, rawInt pos.col, .ref c'])))) hx ⟨_, htb, rfl⟩
  have fr := Z.fresh_ge hge
  refine St.push (Z1.more (x := codO (env.qual ++ "<lambda>")) ⟨oc, hoc, vs, t, hd, hv⟩ fr.1 (by rw [(b (.raw (tabObj (ps ++ #[rawInt pos.line, rawInt pos.col, .ref c'])))).keys]; exact fr.2)) (x := .raw (kla_obj "<lambda>" (env.qual ++ "<lambda>") params body scope clos ((mg "__name__").getD .none) c' ctv)) rfl
theorem w_lambdaHit {params : Arguments} {body : Expr} {scope : Scope} {pos : Pos} {clos : List (Str × Addr)} {P c c' : Addr} {ps : Array Value} {Q : Value → Heap → Prop} (Z : St env h₀ l cs h) (X : Lm h₀ c P) (a : CAt cs P (.raw (tabObj ps)))
    (hc : env.code = .ref c) (hg : env.globals = mainGlobals) (hdef : defaultsOf params env = ([], [])) (hcl : closureFor scope env = Pure.pure clos) (ht : TriplesOk ps.toList) (hf : codeAmong pos ps.toList = some (.ref c'))
    (k : ∀ f pm ctv h', St env h₀ l ((f, .raw (kla_obj "<lambda>" (env.qual ++ "<lambda>") params body scope clos pm c' ctv)) :: cs) h' → Q (.ref f) h') :
    Wp C A (eval (.Lambda params body scope pos) env) Q h := fun t => by
  obtain ⟨mg, bm, ob, g, h1, h2, h3, h4, h5⟩ := (X.keeps Z.keep).glob
  obtain ⟨o, eo, ed⟩ := Z.get a
  have eo : h.get? P = some (tabObj ps) := by rw [eo]; exact congrArg some ed
  have hbP : bm ≠ P := fun q => by
    rw [q, eo] at h4
    cases h4
    cases h5.1
  refine kla_eval hdef (kla_makeFunctionHit (mg := mg) hcl hg g hc (X.code.keeps Z.keep) eo ht hf ⟨bm, ob, h1, h2, h3, hbP, h4, h5⟩ fun ctv h' tk hk hge => ⟨_, _, rfl, k h'.objs.size ((mg "__name__").getD .none) ctv _ ?_⟩)
  exact St.push (Z.keeps hk) (x := .raw (kla_obj "<lambda>" (env.qual ++ "<lambda>") params body scope clos ((mg "__name__").getD .none) c' ctv)) rfl
theorem key_item {base : Heap} {n : Nat} {f c' cell seq : Addr} {nm qual x y : Str} {params : Arguments} {scope : Scope} {clos : List (Str × Addr)} {pm ctv : Value} {p1 p2 p3 : Pos} {ps vals : List PV} {kv : PV → PV} (G : Gd K base)
    (hf : Own base f (.raw (kla_obj nm qual params (.Subscript (.Name y p1) (.Name x p2) p3) scope clos pm c' ctv))) (hcd : Own base c' (codO qual)) (hcell : Own base cell (celO (some (.ref seq)))) (hseq : Own base seq (.list vals))
    (hb : ∀ u, bindArgs (kla_fn nm qual params (.Subscript (.Name y p1) (.Name x p2) p3) scope clos pm (.ref c') ctv) ⟨[u], []⟩ = Pure.pure [(x, u)])
    (hco : scope.isCoroutine = false) (hgen : scope.isGenerator = false) (hk : scope.kind = .function) (hnc : (scope.names.all fun x => x.2 != .cell) = true) (hx : scope.names.lookup x = some .local) (hy : scope.names.lookup y = some .free) (hcl : clos.lookup y = some cell)
    (hdx : (x == ("__debug__" : Str)) = false) (hdy : (y == ("__debug__" : Str)) = false) (hdz : (y == ("__classdict__" : Str)) = false)
    (hp : ∀ p ∈ ps, ∃ k : Int, p = .int k ∧ 0 ≤ k ∧ k < 2 ^ 63 ∧ vals[k.toNat]? = some (kv p)) : KeyOk C (n + 1) base (.ref f) ps kv := by
  intro A h u p hA kp hm hu Q k
  obtain ⟨o, eo, ed⟩ := hf
  have eo : base.get? f = some (kla_obj nm qual params (.Subscript (.Name y p1) (.Name x p2) p3) scope clos pm c' ctv) := by rw [eo]; exact congrArg some ed
  obtain ⟨oc, eoc, vs, t0, hd, hv⟩ := hcd
  have rec' : h.CodeRec (.ref c') qual := ⟨c', oc, vs, t0, rfl, kp _ _ eoc, hd, hv⟩
  refine Wp.call fun t => kla_callFunE hA.room (kp _ _ eo) rfl hco hgen rfl rec' ?_
  rw [hb]
  have hnc' : ∀ x ∈ scope.names, x.2 ≠ .cell := fun x hx => by
    have := List.all_eq_true.mp hnc x hx
    simpa using this
  refine wpAny_pure (wpAny_newFunctionEnv hnc' (fun z hz => ?_) (fun h₁ hns hsb => ⟨((G.keeps kp).nolimit).fresh _ hsb, ?_⟩) hk)
  · rw [List.mem_singleton.mp hz]; exact hx
  have kp1 : Keeps h h₁ := fun b o e => hsb.extBut b o (Nat.ne_of_lt (Heap.lt_size e)) (Heap.get?_push_of_some _ e)
  show codeAny _ _ (.expr (.Subscript (.Name y p1) (.Name x p2) p3) (envX qual scope h.objs.size f (.ref c') clos)) _ _
  have Z : St (envX qual scope h.objs.size f (.ref c') clos) h [(x, some p)] [] h₁ := by
    refine ⟨⟨_, hns, fun z q hz => ?_⟩, ⟨hk, fun z hz => ?_, by simp⟩, kp1, get_size_none h, (fun _ q => nomatch q), (fun _ q => nomatch q), by simp⟩
    · have := List.mem_singleton.mp hz
      cases this
      exact ⟨u, by simp [List.lookup], hu⟩
    · rw [List.mem_singleton.mp hz]; exact hx
  obtain ⟨i, rfl, h0, h1, hi⟩ := hp p hm
  refine kla_codeExpr (wpAny_mono (e_item (e_cell (x := y) (c := cell) hk (by show (scope.names.lookup y == some .cell || scope.names.lookup y == some .free) = true; rw [hy]; rfl) hcl ((hcell.keeps kp).keeps kp1) hdy hdz) (e_name Z (.here) hdx) ((hseq.keeps kp).keeps kp1) h0 h1 hi (by intro _; with_unfolding_all rfl) (fun v h' => pv v = kv (.int i) ∧ h' = h₁) (fun v hv => ⟨hv, rfl⟩) _) (fun v s' q => ?_) fun _ _ z => z.elim)
  obtain ⟨h2, t2, rfl, hv', rfl⟩ := q
  exact ⟨_, _, _, rfl, rfl, v, rfl, k v _ kp1 hv'⟩
theorem St.rebase (Z : St env h₀ l cs h) : St env (h.hide env.locals) l [] h := by
  obtain ⟨o, eo⟩ := get_locals Z
  exact ⟨Z.loc, Z.lk, keeps_hide h _, Heap.hide_self h _, (fun _ q => nomatch q), (fun _ q => nomatch q), by simp⟩
theorem St.back (Z : St env h₀ l cs h) (Z' : St env (h.hide env.locals) l' ds h') : St env h₀ l' (ds ++ cs) h' := by
  have kk : ∀ b o, b ≠ env.locals → h.get? b = some o → h'.get? b = some o := fun b o ne e => Z'.keep b o ((Heap.hide_ne h ne).trans e)
  have nd' := List.nodup_cons.mp Z'.nd
  have nd := List.nodup_cons.mp Z.nd
  have neD : ∀ p ∈ ds, h.get? p.1 = none := fun p hp => by
    have ne : p.1 ≠ env.locals := fun e => nd'.1 (List.mem_map.mpr ⟨p, hp, e⟩)
    exact (Heap.hide_ne h ne).symm.trans (Z'.fresh p hp)
  refine ⟨Z'.loc, Z'.lk, fun b o e => kk b o (fun z => by rw [z, Z.low] at e; cases e) (Z.keep b o e), Z.low, fun p hp => ?_, fun p hp => ?_, ?_⟩
  · rcases List.mem_append.mp hp with hp | hp
    · exact Z'.own p hp
    · obtain ⟨o, eo, d⟩ := Z.own p hp
      exact ⟨o, kk _ _ (fun e => nd.1 (List.mem_map.mpr ⟨p, hp, e⟩)) eo, d⟩
  · rcases List.mem_append.mp hp with hp | hp
    · cases q : h₀.get? p.1 with
      | none => rfl
      | some o => have := Z.keep _ _ q; rw [neD p hp] at this; cases this
    · exact Z.fresh p hp
  · rw [List.map_append]
    refine List.nodup_cons.mpr ⟨fun m => ?_, List.nodup_append.mpr ⟨nd'.2, nd.2, fun a ha b hb => ?_⟩⟩
    · rcases List.mem_append.mp m with m | m
      · exact nd'.1 m
      · exact nd.1 m
    · obtain ⟨p, hp, rfl⟩ := List.mem_map.mp ha
      obtain ⟨q, hq, rfl⟩ := List.mem_map.mp hb
      obtain ⟨o, eo, _⟩ := Z.own q hq
      exact fun e => by rw [← e, neD p hp] at eo; cases eo
end

section
variable {prog : Program} {w : World} {A : Around} {E : Value → Shared → Prop} {s : Shared}
theorem nextOf_range_item {it : Addr} {x left step : Int} {Q : Value → Shared → Prop} (hit : IsRangeIter s.heap it x left step) (hleft : 0 < left)
    (hQ : ∀ h', IsRangeIter h' it (x + step) (left - 1) step → Heap.SameBut it s.heap h' → Q (.int x s.toks) { s with heap := h', toks := s.toks + 1 }) :
    wpAny (model prog w) A (Builtin.SmallTypes.nextOf (.ref it)) Q E s := by
  have hT : s.TypeIs (.ref it) "range_iterator" := ⟨_, hit, rfl⟩
  unfold Builtin.SmallTypes.nextOf
  refine wpAny_bind (wpAny_callSpecial?_slot (name := Str.ofString "__next__") hT F.slot_range_iterator_next
    (call_meets F.slot_range_iterator_next hT F.entry_range_iterator_next (F.args_range_iterator_next_1 _) (AutoRange.range_iterator___next___range_iterator_1 it x left step (by lia)) ⟨hit, ?_⟩))
  exact wpAny_pure (hQ _ (Heap.get?_update_self _ (Heap.get?_update_self _ hit rfl) rfl) ((Heap.SameBut.update ..).trans (Heap.SameBut.update ..)))
theorem nextOf_range_end {it : Addr} {x left step : Int} {Q : Value → Shared → Prop} (hh : A.handled = none) (hit : IsRangeIter s.heap it x left step) (hleft : left ≤ 0)
    (hE : ∀ h' e, (∀ b o, s.heap.get? b = some o → b ≠ it → h'.get? b = some o) → (∃ o, h'.get? e = some o ∧ o.cls = .type "StopIteration") → E (.ref e) { s with heap := h' }) : wpAny (model prog w) A (Builtin.SmallTypes.nextOf (.ref it)) Q E s := by
  have hT : s.TypeIs (.ref it) "range_iterator" := ⟨_, hit, rfl⟩
  unfold Builtin.SmallTypes.nextOf
  refine wpAny_bind (wpAny_callSpecial?_slot (name := Str.ofString "__next__") hT F.slot_range_iterator_next
    (wpAny_call_entry F.slot_range_iterator_next hT F.entry_range_iterator_next ?_ (F.args_range_iterator_next_1 _)))
  show wpAny _ _ (field (.ref it) 0 >>= _) _ _ s
  refine wpAny_bind (wpAny_field hit rfl (x := rawInt x) rfl ?_)
  show wpAny _ _ (field (.ref it) 1 >>= _) _ _ s
  refine wpAny_bind (wpAny_field hit rfl (x := rawInt left) rfl ?_)
  show wpAny _ _ (field (.ref it) 2 >>= _) _ _ s
  refine wpAny_bind (wpAny_field hit rfl (x := rawInt step) rfl ?_)
  show wpAny _ _ (if left ≤ 0 then _ else _) _ _ s
  rw [if_pos hleft]
  refine wpAny_bind (wpAny_rule ?_)
  refine wpAny_bind ?_
  show wpAny _ _ (newExc (.type "StopIteration") [] >>= _) _ _ _
  refine wpAny_bind ?_
  simp only [newExc, newTuple]
  refine wpAny_bind (wpAny_newObj_type ?_ (by size_fits))
  refine wpAny_bind (m := firstArgMember _ _) (wpAny_of_eq (a := Value.none) (by first | rfl | (simp only [firstArgMember]; rfl)) ?_)
  refine wpAny_newObj_type ?_ (by size_fits)
  show wpAny _ _ (PySem.handled >>= _) _ _ _
  refine wpAny_bind (wpAny_handled ?_)
  first | rw [show A.in1.handled = none from hh] | rw [hh]
  refine wpAny_bind (wpAny_pure (wpAny_throw ?_))
  exact hE _ _ (fun b o e _ => Heap.get?_push_of_some _ (Heap.get?_push_of_some _ e)) ⟨_, Heap.get?_push_size _ rfl, rfl⟩
structure ZApart (z TI TO i1 i2 l2 : Addr) : Prop where
  TIz : TI ≠ z
  TOz : TO ≠ z
  i1z : i1 ≠ z
  i2z : i2 ≠ z
  TITO : TI ≠ TO
  TIi1 : TI ≠ i1
  TIi2 : TI ≠ i2
  TOi1 : TO ≠ i1
  TOi2 : TO ≠ i2
  i12 : i1 ≠ i2
  l2z : l2 ≠ z
  l2TO : l2 ≠ TO
  l2i1 : l2 ≠ i1
  l2i2 : l2 ≠ i2
theorem zip_next_item' {z TI TO i1 i2 l2 : Addr} {k2 : Nat} {ys : Array Value} {y a b : Value} {x left step : Int} {Q : Value → Shared → Prop} (D : ZApart z TI TO i1 i2 l2)
    (hz : IsZip s.heap z TI TO .none) (hTI : IsPair s.heap TI (.ref i1) (.ref i2)) (hTO : IsPair s.heap TO a b)
    (h1 : IsRangeIter s.heap i1 x left step) (hleft : 0 < left) (h2 : s.heap.IsListIter i2 l2 k2) (hl2 : s.heap.IsList l2 ys) (hy : ys[k2]? = some y)
    (hQ : ∀ h', IsZip h' z TI TO (rawInt s.heap.objs.size) → IsPair h' TO (.int x s.toks) y → IsRangeIter h' i1 (x + step) (left - 1) step → h'.IsListIter i2 l2 (k2 + 1) → IsPair h' s.heap.objs.size (.int x s.toks) y → h'.objs.size = s.heap.objs.size + 1 →
      (∀ c o, c ≠ z → c ≠ TO → c ≠ i1 → c ≠ i2 → s.heap.get? c = some o → h'.get? c = some o) → Q (.ref s.heap.objs.size) { s with heap := h', toks := s.toks + 1 }) :
    wpAny (model prog w) A (Builtin.«zip.__next__» ⟨[.ref z], []⟩) (fun fin s' => ∃ v, fin = .done (.ret v) ∧ Q v s') E s := by
  show wpAny _ _ (field (.ref z) 2 >>= _) _ _ _
  refine wpAny_bind (wpAny_field hz rfl (x := .bool false) rfl ?_)
  show wpAny _ _ (field (.ref z) 3 >>= _) _ _ _
  refine wpAny_bind (wpAny_field hz rfl (x := .ref TI) rfl ?_)
  refine wpAny_bind (wpAny_seqItems hTI rfl ?_)
  show wpAny _ _ (Builtin.SmallTypes.ownedTupleIsFree (.ref z) >>= _) _ _ _
  refine wpAny_bind ?_
  unfold Builtin.SmallTypes.ownedTupleIsFree
  refine wpAny_bind (wpAny_field hz rfl (x := .none) rfl (wpAny_pure ?_))
  simp only [if_true]
  refine wpAny_bind (wpAny_rule ?_)
  refine wpAny_bind (wpAny_field hz rfl (x := .ref TO) rfl ?_)
  refine wpAny_bind (wpAny_setField_rec hz (by simp) fun h₁ hz₁ hs₁ => ?_)
  replace hz₁ : IsZip h₁ z TI TO .ellipsis := hz₁
  refine wpAny_bind ?_
  simp only [List.zipIdx_cons, List.zipIdx_nil, List.forIn_cons, List.forIn_nil]
  refine wpAny_bind (wpAny_bind (wpAny_onRaise ?_))
  show wpAny _ _ (Builtin.SmallTypes.nextOf (.ref i1) >>= _) _ _ _
  have r1 : IsRangeIter h₁ i1 x left step := hs₁.extBut _ _ D.i1z h1
  refine wpAny_bind (nextOf_range_item (s := { s with heap := h₁ }) r1 hleft fun h₂ h1₂ hs₂ => wpAny_pure ?_)
  have hTO₂ : IsPair h₂ TO a b := hs₂.extBut _ _ D.TOi1 (hs₁.extBut _ _ D.TOz hTO)
  refine wpAny_bind (wpAny_seqItems hTO₂ rfl ?_)
  refine wpAny_bind (wpAny_updateSeq_pair hTO₂ fun h₃ hTO₃ hs₃ => ?_)
  replace hTO₃ : IsPair h₃ TO (.int x s.toks) b := hTO₃
  refine wpAny_bind (wpAny_letGo (wpAny_pure ?_))
  refine wpAny_bind (wpAny_bind (wpAny_onRaise ?_))
  show wpAny _ _ (Builtin.SmallTypes.nextOf (.ref i2) >>= _) _ _ _
  refine wpAny_bind (wpAny_nextOf_list_item (((h2.extBut hs₁.extBut D.i2z).extBut hs₂.extBut D.i12.symm).extBut hs₃.extBut D.TOi2.symm)
    (((hl2.extBut hs₁.extBut D.l2z).extBut hs₂.extBut D.l2i1).extBut hs₃.extBut D.l2TO) hy fun h₄ h2₄ hs₄ => wpAny_pure ?_)
  have hTO₄ : IsPair h₄ TO (.int x s.toks) b := hs₄.extBut _ _ D.TOi2 hTO₃
  refine wpAny_bind (wpAny_seqItems hTO₄ rfl ?_)
  refine wpAny_bind (wpAny_updateSeq_pair hTO₄ fun h₅ hTO₅ hs₅ => ?_)
  replace hTO₅ : IsPair h₅ TO (.int x s.toks) y := hTO₅
  refine wpAny_bind (wpAny_letGo (wpAny_pure (wpAny_pure ?_)))
  refine wpAny_bind (wpAny_seqItems hTO₅ rfl ?_)
  refine wpAny_bind (wpAny_newTuple ?_)
  have hsz : h₅.objs.size = s.heap.objs.size := by rw [hs₅.1, hs₄.1, hs₃.1, hs₂.1, hs₁.1]
  have hz₅ : IsZip h₅ z TI TO .ellipsis := hs₅.extBut _ _ D.TOz.symm (hs₄.extBut _ _ D.i2z.symm (hs₃.extBut _ _ D.TOz.symm (hs₂.extBut _ _ D.i1z.symm hz₁)))
  have hk₅ : ∀ c o, c ≠ z → c ≠ TO → c ≠ i1 → c ≠ i2 → s.heap.get? c = some o → h₅.get? c = some o := fun c o c1 c2 c3 c4 e =>
    hs₅.extBut _ _ c2 (hs₄.extBut _ _ c4 (hs₃.extBut _ _ c2 (hs₂.extBut _ _ c3 (hs₁.extBut _ _ c1 e))))
  have h1₅ : IsRangeIter h₅ i1 (x + step) (left - 1) step := hs₅.extBut _ _ D.TOi1.symm (hs₄.extBut _ _ D.i12 (hs₃.extBut _ _ D.TOi1.symm h1₂))
  have h2₅ : h₅.IsListIter i2 l2 (k2 + 1) := h2₄.extBut hs₅.extBut D.TOi2.symm
  have hzlt : z < h₅.objs.size := Heap.lt_size hz₅
  show wpAny _ _ (Builtin.SmallTypes.ownedTupleHandOut (.ref z) (.ref h₅.objs.size) >>= _) _ _ _
  refine wpAny_bind ?_
  unfold Builtin.SmallTypes.ownedTupleHandOut
  have hz₆ : IsZip (h₅.push { cls := .type "tuple", data := .seq #[.int x s.toks, y] }) z TI TO .ellipsis := Heap.get?_push_of_some _ hz₅
  refine wpAny_bind (wpAny_setField_rec hz₆ (by simp) fun h₇ hz₇ hs₇ => ?_)
  replace hz₇ : IsZip h₇ z TI TO (rawInt h₅.objs.size) := hz₇
  refine wpAny_setField_rec hz₇ (by simp) fun h₈ hz₈ hs₈ => ?_
  replace hz₈ : IsZip h₈ z TI TO (rawInt h₅.objs.size) := hz₈
  have up : ∀ c o, c ≠ z → h₅.get? c = some o → h₈.get? c = some o := fun c o c1 e => hs₈.extBut _ _ c1 (hs₇.extBut _ _ c1 (Heap.get?_push_of_some _ e))
  have hT₈ : IsPair h₈ h₅.objs.size (.int x s.toks) y := hs₈.extBut _ _ (Nat.ne_of_gt hzlt) (hs₇.extBut _ _ (Nat.ne_of_gt hzlt) (Heap.get?_push_size _ rfl))
  have hz8 : h₈.objs.size = h₅.objs.size + 1 := by rw [hs₈.1, hs₇.1, Heap.size_push]
  rw [hsz] at hz₈ hT₈ hz8
  refine wpAny_pure ⟨_, rfl, ?_⟩
  show Q (.ref h₅.objs.size) _
  rw [hsz]
  exact hQ h₈ hz₈ (up _ _ D.TOz hTO₅) (up _ _ D.i1z h1₅) (h2₅.at fun o e => up _ o D.i2z e) hT₈ hz8 fun c o c1 c2 c3 c4 e => up c o c1 (hk₅ c o c1 c2 c3 c4 e)
theorem zip_next_end' {z TI TO i1 i2 : Addr} {x left step : Int} {a b : Value} {Q : Fin → Shared → Prop} (hh : A.handled = none) (i1z : i1 ≠ z)
    (hz : IsZip s.heap z TI TO .none) (hTI : IsPair s.heap TI (.ref i1) (.ref i2)) (hTO : IsPair s.heap TO a b)
    (h1 : IsRangeIter s.heap i1 x left step) (hleft : left ≤ 0)
    (hE : ∀ h' e, (∀ c o, c ≠ z → c ≠ i1 → s.heap.get? c = some o → h'.get? c = some o) → (∃ o, h'.get? e = some o ∧ o.cls = .type "StopIteration") → E (.ref e) { s with heap := h' }) :
    wpAny (model prog w) A (Builtin.«zip.__next__» ⟨[.ref z], []⟩) Q E s := by
  show wpAny _ _ (field (.ref z) 2 >>= _) _ _ _
  refine wpAny_bind (wpAny_field hz rfl (x := .bool false) rfl ?_)
  show wpAny _ _ (field (.ref z) 3 >>= _) _ _ _
  refine wpAny_bind (wpAny_field hz rfl (x := .ref TI) rfl ?_)
  refine wpAny_bind (wpAny_seqItems hTI rfl ?_)
  show wpAny _ _ (Builtin.SmallTypes.ownedTupleIsFree (.ref z) >>= _) _ _ _
  refine wpAny_bind ?_
  unfold Builtin.SmallTypes.ownedTupleIsFree
  refine wpAny_bind (wpAny_field hz rfl (x := .none) rfl (wpAny_pure ?_))
  simp only [if_true]
  refine wpAny_bind (wpAny_rule ?_)
  refine wpAny_bind (wpAny_field hz rfl (x := .ref TO) rfl ?_)
  refine wpAny_bind (wpAny_setField_rec hz (by simp) fun h₁ hz₁ hs₁ => ?_)
  replace hz₁ : IsZip h₁ z TI TO .ellipsis := hz₁
  refine wpAny_bind ?_
  simp only [List.zipIdx_cons, List.zipIdx_nil, List.forIn_cons, List.forIn_nil]
  refine wpAny_bind (wpAny_bind (wpAny_onRaise ?_))
  show wpAny _ _ (Builtin.SmallTypes.nextOf (.ref i1) >>= _) _ _ _
  have r1 : IsRangeIter h₁ i1 x left step := hs₁.extBut _ _ i1z h1
  refine wpAny_bind (nextOf_range_end (s := { s with heap := h₁ }) hh r1 hleft fun h₂ e hs₂ he => ?_)
  obtain ⟨oe, hoe, hce⟩ := he
  have hz₂ : IsZip h₂ z TI TO .ellipsis := hs₂ _ _ hz₁ i1z.symm
  have hez : e ≠ z := fun x => by subst x; rw [hz₂] at hoe; cases hoe; simp at hce
  refine wpAny_setField_rec hz₂ (by simp) fun h₃ _ hs₃ => hE h₃ e (fun c o c1 c3 x => hs₃.extBut _ _ c1 (hs₂ _ _ (hs₁.extBut _ _ c1 x) c3)) ⟨oe, hs₃.extBut _ _ hez hoe, hce⟩
end

noncomputable def zipO (TI TO : Addr) (f0 : Value) : AO := .raw { cls := .type "zip", dict := none, data := .fields #[f0, .bool false, .bool false, .ref TI, .ref TO], slots := #[] }
noncomputable def pairX (a b : Value) : AO := .raw { cls := .type "tuple", data := .seq #[a, b] }
noncomputable def pairO : AO := .obj fun o => ∃ a b, o = { cls := .type "tuple", data := .seq #[a, b] }
theorem meets_zip_new' (r it l2 : Addr) (k : Nat) (a b c : Int) (t u v : Tok) (hsmall : Builtin.Range.small a b c = true) :
    Meets (Builtin.«zip.__new__» ⟨[.type "zip", .ref r, .ref it], []⟩) (fun _ R s => IsRange s.heap r a b c t u v ∧ s.heap.IsListIter it l2 k ∧
      ∀ h', h' = (((s.heap.push { cls := .type "range_iterator", data := .fields #[rawInt a, rawInt (Builtin.Range.rangeSize a b c), rawInt c] }).push { cls := .type "tuple", data := .seq #[.ref s.heap.objs.size, .ref it] }).push { cls := .type "tuple", data := .seq #[.none, .none] }).push { cls := .type "zip", data := .fields #[.none, .bool false, .bool false, .ref (s.heap.objs.size + 1), .ref (s.heap.objs.size + 2)] } →
        R (.ok (.ret (.ref (s.heap.objs.size + 3)))) { s with heap := h' }) :=
  .of_wp fun prog w A R s h => by
    obtain ⟨hp, g, d, tk, os⟩ := s
    obtain ⟨hr, hi, h⟩ := h
    have hsub := sub_zip
    have hR : IsRange (Shared.heap ⟨hp, g, d, tk, os⟩) r a b c t u v := hr
    have hI : Heap.IsListIter (Shared.heap ⟨hp.push { cls := .type "range_iterator", data := .fields #[rawInt a, rawInt (Builtin.Range.rangeSize a b c), rawInt c] }, g, d, tk, os⟩) it l2 k := by
      obtain ⟨o, e, r⟩ := hi
      exact ⟨o, Heap.get?_push_of_some _ e, r⟩
    wp_walk using wpAny_pyIter_range hR hsmall, wpAny_pyIter_listiter hI
    refine ⟨_, rfl, ?_⟩
    have h2 := h _ rfl
    simp only [Heap.size_push]
    exact h2
section
variable {C : Cx} {A : Around} {h h₀ h' : Heap} {env : Env} {l l' : List (Str × Option PV)} {cs cs' ds : List (Addr × AO)} {K : Frag}
theorem St.remake {ds ds' : List (Addr × AO)} (Z : St env h₀ l (ds ++ cs) h) (hd : ds'.map (·.1) = ds.map (·.1)) (kk : ∀ b o, b ∉ ds.map (·.1) → h.get? b = some o → h'.get? b = some o) (ow : ∀ p ∈ ds', Own h' p.1 p.2) : St env h₀ l (ds' ++ cs) h' := by
  have nd := Z.nd
  rw [List.map_append] at nd
  obtain ⟨n1, n2⟩ := List.nodup_cons.mp nd
  obtain ⟨n3, n4, n5⟩ := List.nodup_append.mp n2
  have fr : ∀ b, b ∈ ds.map (·.1) → h₀.get? b = none := fun b m => by
    obtain ⟨p, hp, rfl⟩ := List.mem_map.mp m
    exact Z.fresh p (List.mem_append_left _ hp)
  refine ⟨?_, Z.lk, fun b o e => kk b o (fun m => by rw [fr b m] at e; cases e) (Z.keep b o e), Z.low, fun p hp => ?_, fun p hp => ?_, by rw [List.map_append, hd]; exact nd⟩
  · obtain ⟨m, ⟨o, es, ep, e, r1⟩, r⟩ := Z.loc
    exact ⟨m, ⟨o, es, ep, kk _ _ (fun m => n1 (List.mem_append_left _ m)) e, r1⟩, r⟩
  · rcases List.mem_append.mp hp with hp | hp
    · exact ow p hp
    · obtain ⟨o, e, d⟩ := Z.own p (List.mem_append_right _ hp)
      exact ⟨o, kk _ _ (fun m => n5 _ m _ (List.mem_map.mpr ⟨p, hp, rfl⟩) rfl) e, d⟩
  · rcases List.mem_append.mp hp with hp | hp
    · exact fr _ (hd ▸ List.mem_map.mpr ⟨p, hp, rfl⟩)
    · exact Z.fresh p (List.mem_append_right _ hp)
theorem St.shed {ds : List (Addr × AO)} (Z : St env h₀ l (ds ++ cs) h) (kk : ∀ b o, b ∉ ds.map (·.1) → h.get? b = some o → h'.get? b = some o) : St env h₀ l cs h' := by
  have nd := Z.nd
  rw [List.map_append] at nd
  obtain ⟨n1, n2⟩ := List.nodup_cons.mp nd
  obtain ⟨n3, n4, n5⟩ := List.nodup_append.mp n2
  have fr : ∀ b, b ∈ ds.map (·.1) → h₀.get? b = none := fun b m => by
    obtain ⟨p, hp, rfl⟩ := List.mem_map.mp m
    exact Z.fresh p (List.mem_append_left _ hp)
  refine ⟨?_, Z.lk, fun b o e => kk b o (fun m => by rw [fr b m] at e; cases e) (Z.keep b o e), Z.low, fun p hp => ?_, fun p hp => Z.fresh p (List.mem_append_right _ hp), List.nodup_cons.mpr ⟨fun m => n1 (List.mem_append_right _ m), n4⟩⟩
  · obtain ⟨m, ⟨o, es, ep, e, r1⟩, r⟩ := Z.loc
    exact ⟨m, ⟨o, es, ep, kk _ _ (fun m => n1 (List.mem_append_left _ m)) e, r1⟩, r⟩
  · obtain ⟨o, e, d⟩ := Z.own p (List.mem_append_right _ hp)
    exact ⟨o, kk _ _ (fun m => n5 _ m _ (List.mem_map.mpr ⟨p, hp, rfl⟩) rfl) e, d⟩
theorem w_zip {r it l2 : Addr} {k0 : Nat} {a b c : Int} {Q : Value → Heap → Prop} (Z : St env h₀ l cs h) (o1 : Own h r (rngO a b c)) (o2 : Own h it (lit l2 k0)) (hs : Builtin.Range.small a b c = true)
    (k : ∀ z TI TO i1 h', St env h₀ l ((z, zipO TI TO .none) :: (TO, pairO) :: (TI, pairX (.ref i1) (.ref it)) :: (i1, ritO a (Builtin.Range.rangeSize a b c) c) :: cs) h' → Q (.ref z) h') : Wp C A (call (.type "zip") [.ref r, .ref it]) Q h := fun tk => by
  obtain ⟨o, eo, t, u, v, rfl⟩ := o1
  obtain ⟨oi, ei, e1, e2⟩ := o2
  refine callType_new F.called_zip (by decide) (F.typeCall_zip_2 _ _) (F.newCall_zip_2 _ _) (fun obj => F.args_object_init_3 obj _ _) F.entry_zip_new
    (meets_zip_new' r it l2 k0 a b c t u v hs) ⟨eo, ⟨oi, ei, e1, e2⟩, fun h' eh => ?_⟩
  have Z1 := Z.push (o := { cls := .type "range_iterator", data := .fields #[rawInt a, rawInt (Builtin.Range.rangeSize a b c), rawInt c] }) (x := ritO a (Builtin.Range.rangeSize a b c) c) rfl
  have Z2 := Z1.push (o := { cls := .type "tuple", data := .seq #[.ref h.objs.size, .ref it] }) (x := pairX (.ref h.objs.size) (.ref it)) rfl
  have Z3 := Z2.push (o := { cls := .type "tuple", data := .seq #[.none, .none] }) (x := pairO) ⟨_, _, rfl⟩
  have Z4 := Z3.push (o := { cls := .type "zip", data := .fields #[.none, .bool false, .bool false, .ref (h.objs.size + 1), .ref (h.objs.size + 2)] }) (x := zipO (h.objs.size + 1) (h.objs.size + 2) .none) rfl
  have eh' : h' = (((h.push { cls := .type "range_iterator", data := .fields #[rawInt a, rawInt (Builtin.Range.rangeSize a b c), rawInt c] }).push { cls := .type "tuple", data := .seq #[.ref h.objs.size, .ref it] }).push { cls := .type "tuple", data := .seq #[.none, .none] }).push { cls := .type "zip", data := .fields #[.none, .bool false, .bool false, .ref (h.objs.size + 1), .ref (h.objs.size + 2)] } := eh
  simp only [Heap.size_push] at Z4
  rw [← eh'] at Z4
  obtain ⟨oz, ez, d⟩ := Z4.get .here
  have d : oz = { cls := .type "zip", dict := none, data := .fields #[.none, .bool false, .bool false, .ref (h.objs.size + 1), .ref (h.objs.size + 2)], slots := #[] } := d
  subst d
  exact ⟨⟨_, ez, rfl⟩, h', _, rfl, k _ _ _ _ h' Z4⟩
theorem zapart {z TI TO i1 i2 l2 : Addr} {x1 x2 x3 x4 x5 x6 : AO} (Z : St env h₀ l ((z, x1) :: (TO, x2) :: (TI, x3) :: (i1, x4) :: (i2, x5) :: cs) h) (hl : l2 ≠ z ∧ l2 ≠ TO ∧ l2 ≠ i1 ∧ l2 ≠ i2) : ZApart z TI TO i1 i2 l2 := by
  have nd := Z.nd
  simp only [List.map_cons, List.nodup_cons, List.mem_cons, not_or] at nd
  obtain ⟨-, ⟨a1, a2, a3, a4, -⟩, ⟨b2, b3, b4, -⟩, ⟨c3, c4, -⟩, ⟨d4, -⟩, -⟩ := nd
  exact ⟨fun e => a2 e.symm, fun e => a1 e.symm, fun e => a3 e.symm, fun e => a4 e.symm, fun e => b2 e.symm, c3, c4, b3, b4, d4, hl.1, hl.2.1, hl.2.2.1, hl.2.2.2⟩
theorem next_zip {z TI TO i1 i2 l2 : Addr} {k2 : Nat} {x left step : Int} {ps : List PV} {p : PV} {Q : Option Value → Heap → Prop} (Z : St env h₀ l ((z, zipO TI TO .none) :: (TO, pairO) :: (TI, pairX (.ref i1) (.ref i2)) :: (i1, ritO x left step) :: (i2, lit l2 k2) :: cs) h)
    (hleft : 0 < left) (o : Own h l2 (.list ps)) (hp : ps[k2]? = some p) (hl : l2 ≠ z ∧ l2 ≠ TO ∧ l2 ≠ i1 ∧ l2 ≠ i2)
    (k : ∀ T h', St env h₀ l ((T, .tup [.int x, p]) :: (z, zipO TI TO (rawInt T)) :: (TO, pairO) :: (TI, pairX (.ref i1) (.ref i2)) :: (i1, ritO (x + step) (left - 1) step) :: (i2, lit l2 (k2 + 1)) :: cs) h' → Q (some (.ref T)) h') : Wp C A (pyNext (.ref z)) Q h := fun tk => by
  obtain ⟨vs, il, ev⟩ := own_isList o
  obtain ⟨y, hy, pvy⟩ := map_pv_get ev hp
  obtain ⟨oz, ez, dz⟩ := Z.get .here
  obtain ⟨oT, eT, a, b, rfl⟩ := Z.get (.there .here)
  obtain ⟨oI, eI, dI⟩ := Z.get (.there (.there .here))
  obtain ⟨o1, e1, d1⟩ := Z.get (.there (.there (.there .here)))
  obtain ⟨o2, e2, d2, d3⟩ := Z.get (.there (.there (.there (.there .here))))
  have dz : oz = _ := dz
  have dI : oI = _ := dI
  have d1 : o1 = _ := d1
  subst dz dI d1
  have hT : (C.st h tk).TypeIs (.ref z) "zip" := ⟨_, ez, rfl⟩
  unfold pyNext
  refine wpAny_bind (wpAny_attempt (wpAny_callSpecial?_slot (name := Str.ofString "__next__") hT F.slot_zip_next
    (wpAny_call_entry F.slot_zip_next hT F.entry_zip_next
      (zip_next_item' (s := C.st h tk) (zapart (x6 := pairO) Z hl) ez eI eT e1 hleft ⟨o2, e2, d2, d3⟩ il hy fun h' a1 a2 a3 a4 a5 a6 a7 => wpAny_pure ⟨h', _, rfl, ?_⟩) (F.args_zip_next_1 _))))
  refine k h.objs.size h' ?_
  have fr := Z.fresh_ge (Nat.le_refl h.objs.size)
  have Z1 : St env h₀ l ((z, zipO TI TO (rawInt h.objs.size)) :: (TO, pairO) :: (TI, pairX (.ref i1) (.ref i2)) :: (i1, ritO (x + step) (left - 1) step) :: (i2, lit l2 (k2 + 1)) :: cs) h' := by
    have D := zapart (x6 := pairO) Z hl
    have aI := a7 TI _ D.TIz D.TITO D.TIi1 D.TIi2 eI
    refine St.remake (ds := [(z, zipO TI TO .none), (TO, pairO), (TI, pairX (.ref i1) (.ref i2)), (i1, ritO x left step), (i2, lit l2 k2)]) (ds' := [(z, zipO TI TO (rawInt h.objs.size)), (TO, pairO), (TI, pairX (.ref i1) (.ref i2)), (i1, ritO (x + step) (left - 1) step), (i2, lit l2 (k2 + 1))]) Z rfl (fun b o hb e => ?_) fun p hp => ?_
    · simp only [List.map_cons, List.map_nil, List.mem_cons, List.not_mem_nil, or_false, not_or] at hb
      exact a7 b o hb.1 hb.2.1 hb.2.2.2.1 hb.2.2.2.2 e
    · simp only [List.mem_cons, List.not_mem_nil, or_false] at hp
      rcases hp with rfl | rfl | rfl | rfl | rfl
      · exact ⟨_, a1, rfl⟩
      · exact ⟨_, a2, _, _, rfl⟩
      · exact ⟨_, aI, rfl⟩
      · exact ⟨_, a3, rfl⟩
      · obtain ⟨o', e', f1, f2⟩ := a4
        exact ⟨o', e', f1, f2⟩
  exact Z1.more (x := .tup [.int x, p]) ⟨_, a5, #[.int x tk, y], 0, rfl, by simp [pvy]; rfl⟩ fr.1 fr.2
theorem next_zip_end {z TI TO i1 i2 : Addr} {x5 : AO} {x left step : Int} {Q : Option Value → Heap → Prop} (hh : A.handled = none) (Z : St env h₀ l ((z, zipO TI TO .none) :: (TO, pairO) :: (TI, pairX (.ref i1) (.ref i2)) :: (i1, ritO x left step) :: cs) h)
    (hleft : left ≤ 0) (k : ∀ h', St env h₀ l cs h' → Q none h') : Wp C A (pyNext (.ref z)) Q h := fun tk => by
  obtain ⟨oz, ez, dz⟩ := Z.get .here
  obtain ⟨oT, eT, a, b, rfl⟩ := Z.get (.there .here)
  obtain ⟨oI, eI, dI⟩ := Z.get (.there (.there .here))
  obtain ⟨o1, e1, d1⟩ := Z.get (.there (.there (.there .here)))
  have dz : oz = _ := dz
  have dI : oI = _ := dI
  have d1 : o1 = _ := d1
  subst dz dI d1
  have i1z : i1 ≠ z := by
    have nd := Z.nd
    simp only [List.map_cons, List.nodup_cons, List.mem_cons, not_or] at nd
    obtain ⟨-, ⟨a1, a2, a3, -⟩, -⟩ := nd
    exact fun e => a3 e.symm
  have hT : (C.st h tk).TypeIs (.ref z) "zip" := ⟨_, ez, rfl⟩
  unfold pyNext
  refine wpAny_bind (wpAny_attempt (wpAny_callSpecial?_slot (name := Str.ofString "__next__") hT F.slot_zip_next
    (wpAny_call_entry F.slot_zip_next hT F.entry_zip_next (zip_next_end' (s := C.st h tk) hh i1z ez eI eT e1 hleft fun h' e hk he => ?_) (F.args_zip_next_1 _))))
  obtain ⟨o, ho, hc⟩ := he
  refine wpAny_bind (wpAny_isInstance (T := "StopIteration") (b := true) ⟨o, ho, hc⟩ isSubtype_stop ?_)
  refine wpAny_pure ⟨h', _, rfl, k h' ?_⟩
  refine St.shed (ds := [(z, zipO TI TO .none), (i1, ritO x left step)]) (h := h) (Z.sub ?_) fun b o hb e => ?_
  · exact ((List.Sublist.cons_cons (i1, ritO x left step) (List.Sublist.refl cs)).cons (TI, pairX (.ref i1) (.ref i2)) |>.cons (TO, pairO)).cons_cons _
  · simp only [List.map_cons, List.map_nil, List.mem_cons, List.not_mem_nil, or_false, not_or] at hb
    exact hk b o hb.1 hb.2 e
end

section
variable {C : Cx} {A : Around} {h h₀ h' : Heap} {env : Env} {l l' : List (Str × Option PV)} {cs cs' ds : List (Addr × AO)} {K : Frag}
theorem w_ownedZip {elts : List Expr} {k0 : Nat} {pos : Pos} {z TI TO T : Addr} {Q : Unit → Heap → Prop} (Z : St env h₀ l cs h) (c : CAt cs z (zipO TI TO (rawInt T))) (c' : CSet z (zipO TI TO .none) cs cs') (k : ∀ h', St env h₀ l cs' h' → Q () h') :
    Wp C A (letOwnedTupleGo (.Tuple elts k0 pos) (.ref z) (.ref T)) Q h := fun t => by
  obtain ⟨o, eo, d⟩ := Z.get c
  have d : o = { cls := .type "zip", dict := none, data := .fields #[rawInt T, .bool false, .bool false, .ref TI, .ref TO], slots := #[] } := d
  subst d
  exact wpAny_letOwnedTupleGo_zip (s := C.st h t) eo fun h' hz hs => ⟨h', _, rfl, k h' (Z.upd c' hs ⟨_, hz, rfl⟩)⟩
theorem w_iter_zip {z TI TO : Addr} {f0 : Value} {Q : Value → Heap → Prop} (o : Own h z (zipO TI TO f0)) (k : Q (.ref z) h) : Wp C A (pyIter (.ref z)) Q h := fun t => by
  obtain ⟨o, eo, d⟩ := o
  have d : o = { cls := .type "zip", dict := none, data := .fields #[f0, .bool false, .bool false, .ref TI, .ref TO], slots := #[] } := d
  subst d
  exact wpAny_pyIter_zip (s := C.st h t) eo ⟨_, _, rfl, k⟩
theorem w_iterCall {v : Value} {Q : Value → Heap → Prop} (x : Wp C A.in1 (pyIter v) Q h) : Wp C A (call (.builtin "iter") [v]) Q h := by
  refine w_call_function (by decide +kernel) (by decide +kernel) kdk_entry_iter (kdk_args_iter _) ?_
  unfold Builtin.«iter»
  refine Wp.bind (T := someArgs "iter" 1 2 _) (fun t => wpAny_of_eq (a := [v]) (by first | rfl | kernel_rfl!) ⟨_, _, rfl, ?_⟩)
  exact Wp.bind (x.mono fun v h' q => Wp.pure ⟨_, rfl, q⟩)
theorem called_object : TypeCalled "object" "object.__new__" "object.__init__" :=
  ⟨by decide +kernel, by decide +kernel, ⟨_, _, F.mro_object⟩, by kernel_rfl, by decide +kernel, by rw [isSubtype_type]; kernel_rfl, F.slot_object_init⟩
theorem object_new_meets : Meets (Builtin.«object.__new__» ⟨[.type "object"], []⟩) (fun _ R s => R (.ok (.ret (.ref s.heap.objs.size))) { s with heap := s.heap.push { cls := .type "object", data := .plain } }) :=
  .of_wp fun prog w A R s h => by
    have hm := called_object.made
    have hs := called_object.sub
    wp_walk
    exact ⟨_, rfl, h⟩
theorem object_init0 {self : Value} : Meets (Builtin.«object.__init__» ⟨[self], []⟩) (fun _ R s => R (.ok (.ret .none)) s) :=
  .of_wp fun _ _ _ _ _ h => wpAny_pure ⟨_, rfl, h⟩
theorem w_object {Q : Value → Heap → Prop} (Z : St env h₀ l cs h) (k : ∀ a h', St env h₀ l ((a, .raw { cls := .type "object", data := .plain }) :: cs) h' → Q (.ref a) h') : Wp C A (call (.type "object") []) Q h := fun t => by
  have Z1 := Z.push (o := { cls := .type "object", data := .plain }) (x := .raw { cls := .type "object", data := .plain }) rfl
  refine callType_meets (Q₁ := fun obj s₁ => obj = .ref h.objs.size ∧ s₁ = C.st (h.push { cls := .type "object", data := .plain }) t) called_object (by kernel_rfl) (by kernel_rfl) F.entry_object_new F.entry_object_init object_new_meets ⟨rfl, rfl⟩ fun obj s₁ hq => ?_
  obtain ⟨rfl, rfl⟩ := hq
  obtain ⟨o, eo, d⟩ := Z1.get .here
  have d : o = { cls := .type "object", data := .plain } := d
  subst d
  exact ⟨⟨_, eo, rfl⟩, by unfold argsOk; kernel_rfl, _, object_init0, rfl, _, _, rfl, k _ _ Z1⟩
theorem w_call_ty0 {x : Str} {p0 pos : Pos} {id : String} {Q : Value → Heap → Prop} (g : Gl C A env h x (.type id)) (y : Wp C A (call (.type id) []) Q h) : Wp C A (eval (.Call (.Name x p0) [] [] pos) env) Q h := fun t =>
  Call_ ((g p0 (fun v h1 => v = .type id ∧ h1 = h) ⟨rfl, rfl⟩).seq t fun v h1 t1 q1 => by
    obtain ⟨rfl, rfl⟩ := q1
    exact PySem.callWith_type (first := []) rfl (evalArgs_empty (by simpa using y t1)))
theorem gl_name {x : Str} {a : Addr} (y : ∀ pos, Pe C A env h (.Name x pos) (.ref a)) : Gl C A env h x (.ref a) := fun pos Q k => y pos Q fun v hv => by
  obtain rfl := pv_ref hv
  exact k
theorem c_is_int_ref {i : Int} {a : Addr} : Cm C A h .Is (.int i) (.ref a) false := fun u v hu hv Q k t => by
  obtain ⟨u', rfl⟩ := pv_int hu
  obtain rfl := pv_ref hv
  exact wpAny_is_other rfl (fun z => nomatch z) ⟨_, _, rfl, k⟩
theorem t_list {e : Expr} {a : Addr} {ps : List PV} (x : Pe C A env h e (.ref a)) (o : Own h a (.list ps)) (hz : ps.length < 2 ^ 62) (hx : isTrue e env (eval e env) = (do let v ← eval e env; PySem.standAt e.pos; holding [v] (truthy v)) := by rfl) : Pt C A env h e (!ps.isEmpty) := fun Q k => by
  rw [hx]
  refine Wp.bind (x _ fun v hv => ?_)
  obtain rfl := pv_ref hv
  obtain ⟨vs, il, ev⟩ := own_isList o
  have hsz : vs.size = ps.length := by rw [← ev, List.length_map]; simp
  have he : vs.isEmpty = ps.isEmpty := by
    rw [← ev]
    cases hv : vs.toList with
    | nil =>
      have : vs.size = 0 := by rw [← Array.length_toList, hv]; rfl
      simp [Array.isEmpty, this]
    | cons x r =>
      have : vs.size ≠ 0 := by rw [← Array.length_toList, hv]; simp
      simp [Array.isEmpty, this]
  refine Wp.bind (Wp.standAt (Wp.holding fun t => wpAny_truthy_list (s := C.st h t) il (by rw [hsz]; lia) ⟨_, _, rfl, ?_⟩))
  rw [he]
  exact k
end

theorem sup_length (c : PV → PV → Bool) : ∀ n xs pos, (sup c n xs pos).1.length = xs.length
  | 0, _, _ => rfl
  | n + 1, xs, pos => by
    unfold sup
    split
    · split
      · rw [sup_length]; simp
      · rw [sup_length]; simp
    · rfl
theorem sup_lt (c : PV → PV → Bool) : ∀ n xs pos, pos < xs.length → (sup c n xs pos).2 < xs.length
  | 0, _, _, h => h
  | n + 1, xs, pos, h => by
    unfold sup
    split
    · split
      · rename_i a b
        have := sup_lt c n (xs.set pos (xs.getD (2 * pos + 2) .none)) (2 * pos + 2) (by rw [List.length_set]; exact b.1)
        rw [List.length_set] at this; exact this
      · rename_i a b
        have := sup_lt c n (xs.set pos (xs.getD (2 * pos + 1) .none)) (2 * pos + 1) (by rw [List.length_set]; exact a)
        rw [List.length_set] at this; exact this
    · exact h
theorem siftup_length (b c : PV → PV → Bool) (xs : List PV) (pos : Nat) : (siftup b c xs pos).length = xs.length := by
  unfold siftup; rw [sdown_length, List.length_set, sup_length]
theorem set_perm_er : ∀ (xs : List PV) (i : Nat) (x : PV), i < xs.length → (xs.set i x).Perm (x :: xs.eraseIdx i)
  | y :: xs, 0, x, _ => .refl _
  | y :: xs, i + 1, x, h => by
    show (y :: xs.set i x).Perm (x :: y :: xs.eraseIdx i)
    exact ((set_perm_er xs i x (by simpa using h)).cons y).trans (List.Perm.swap x y _)
theorem get_perm_er (xs : List PV) (i : Nat) (h : i < xs.length) : xs.Perm (xs[i] :: xs.eraseIdx i) := by
  have := set_perm_er xs i xs[i] h
  rw [List.set_getElem_self h] at this; exact this
theorem swap_perm {xs : List PV} {i j : Nat} (hi : i < xs.length) (hj : j < xs.length) (x : PV) (ne : i ≠ j) : ((xs.set i (xs.getD j .none)).set j x).Perm (xs.set i x) := by
  have e : xs.getD j .none = xs[j] := by rw [List.getD_eq_getElem?_getD, List.getElem?_eq_getElem hj]; rfl
  rw [e]
  have h1 := set_perm_er xs i x hi
  have hj' : j < (xs.set i xs[j]).length := by rw [List.length_set]; exact hj
  have h2 := set_perm_er _ j x hj'
  refine h2.trans (List.Perm.trans ?_ h1.symm)
  refine List.Perm.cons _ ?_
  have h3 := set_perm_er xs i xs[j] hi
  have h4 := (get_perm_er _ j hj').symm
  have e2 : (xs.set i xs[j])[j] = xs[j] := by rw [List.getElem_set_ne ne]
  rw [e2] at h4
  exact (h4.trans h3).cons_inv
theorem sdown_perm (b : PV → PV → Bool) (start : Nat) (x : PV) : ∀ n xs pos, pos < xs.length → (sdown b start x n xs pos).Perm (xs.set pos x)
  | 0, _, _, _ => .refl _
  | n + 1, xs, pos, h => by
    unfold sdown
    split
    · rename_i a
      refine (sdown_perm b start x n _ _ (by rw [List.length_set]; lia)).trans ?_
      exact swap_perm h (by lia) x (by lia)
    · exact .refl _
theorem sup_perm (c : PV → PV → Bool) (x : PV) : ∀ n xs pos, pos < xs.length → ((sup c n xs pos).1.set (sup c n xs pos).2 x).Perm (xs.set pos x)
  | 0, _, _, _ => .refl _
  | n + 1, xs, pos, h => by
    unfold sup
    split
    · split
      · rename_i a b
        exact (sup_perm c x n _ _ (by rw [List.length_set]; exact b.1)).trans (swap_perm h b.1 x (by lia))
      · rename_i a b
        exact (sup_perm c x n _ _ (by rw [List.length_set]; exact a)).trans (swap_perm h a x (by lia))
    · exact .refl _
theorem set_getD {xs : List PV} {pos : Nat} (h : pos < xs.length) : xs.set pos (xs.getD pos .none) = xs := by
  have e : xs.getD pos .none = xs[pos] := by rw [List.getD_eq_getElem?_getD, List.getElem?_eq_getElem h]; rfl
  rw [e]; exact List.set_getElem_self h
theorem siftup_perm (b c : PV → PV → Bool) {xs : List PV} {pos : Nat} (h : pos < xs.length) : (siftup b c xs pos).Perm xs := by
  unfold siftup
  refine (sdown_perm b pos _ _ _ _ (by rw [List.length_set, sup_length]; exact sup_lt c _ _ _ h)).trans ?_
  rw [List.set_set]
  refine (sup_perm c _ _ _ _ h).trans ?_
  rw [set_getD h]
noncomputable def hfy (b c : PV → PV → Bool) : Nat → List PV → List PV
  | 0, xs => xs
  | k + 1, xs => hfy b c k (siftup b c xs k)
theorem hfy_perm (b c : PV → PV → Bool) : ∀ k xs, k ≤ xs.length → (hfy b c k xs).Perm xs
  | 0, _, _ => .refl _
  | k + 1, xs, h => (hfy_perm b c k _ (by rw [siftup_length]; lia)).trans (siftup_perm b c (by lia))
theorem getD_at0 {xs : List PV} (h : 0 < xs.length) : xs[(0 : Int).toNat]? = some (xs.getD 0 .none) := getD_at (i := 0) h

structure SWo (S : PV → Prop) (R : PV → PV → Bool) : Prop where
  asym : ∀ p q, S p → S q → R p q = true → R q p = false
  neg : ∀ p q r, S p → S q → S r → R p q = false → R q r = false → R p r = false
theorem SWo.irr {S : PV → Prop} {R : PV → PV → Bool} (W : SWo S R) {p : PV} (h : S p) : R p p = false := by
  cases q : R p p with
  | false => rfl
  | true => exact W.asym p p h h q ▸ q.symm ▸ rfl
noncomputable abbrev gd (xs : List PV) (i : Nat) : PV := xs.getD i .none
theorem gd_mem {xs : List PV} {i : Nat} (h : i < xs.length) : gd xs i ∈ xs := by
  unfold gd; rw [List.getD_eq_getElem?_getD, List.getElem?_eq_getElem h]; exact List.getElem_mem h
theorem gd_set {xs : List PV} {i j : Nat} {x : PV} (h : i < xs.length) : gd (xs.set i x) j = if j = i then x else gd xs j := by
  unfold gd
  rw [List.getD_eq_getElem?_getD, List.getD_eq_getElem?_getD, List.getElem?_set]
  by_cases e : i = j
  · subst e; simp [h]
  · rw [if_neg e, if_neg (fun z => e z.symm)]
noncomputable def AllS (S : PV → Prop) (xs : List PV) : Prop := ∀ p ∈ xs, S p
theorem AllS.gd {S : PV → Prop} {xs : List PV} {i : Nat} (a : AllS S xs) (h : i < xs.length) : S (gd xs i) := a _ (gd_mem h)
theorem AllS.set {S : PV → Prop} {xs : List PV} {i : Nat} {x : PV} (a : AllS S xs) (h : S x) : AllS S (xs.set i x) := fun p m => by
  rcases List.mem_or_eq_of_mem_set m with m | e
  · exact a p m
  · rw [e]; exact h
theorem pa_lt {i : Nat} (h : 0 < i) : (i - 1) / 2 < i := by lia
inductive Desc (s : Nat) : Nat → Prop
  | here : Desc s s
  | left {q} : Desc s q → Desc s (2 * q + 1)
  | right {q} : Desc s q → Desc s (2 * q + 2)
theorem Desc.le {s q : Nat} (d : Desc s q) : s ≤ q := by induction d <;> lia
theorem Desc.up {s q : Nat} (d : Desc s q) (h : s < q) : Desc s ((q - 1) / 2) := by
  cases d with
  | here => lia
  | left d => rename_i q'; have : (2 * q' + 1 - 1) / 2 = q' := by lia
              rw [this]; exact d
  | right d => rename_i q'; have : (2 * q' + 2 - 1) / 2 = q' := by lia
               rw [this]; exact d
section
variable {S : PV → Prop} {R : PV → PV → Bool}
structure Hole (R : PV → PV → Bool) (xs : List PV) (s q : Nat) : Prop where
  a : ∀ i, 0 < i → i < xs.length → s ≤ (i - 1) / 2 → i ≠ q → (i - 1) / 2 ≠ q → R (gd xs ((i - 1) / 2)) (gd xs i) = false
  c : ∀ i, 0 < i → i < xs.length → (i - 1) / 2 = q → s < q → R (gd xs ((q - 1) / 2)) (gd xs i) = false
noncomputable def HeapFrom (R : PV → PV → Bool) (xs : List PV) (s : Nat) : Prop := ∀ i, 0 < i → i < xs.length → s ≤ (i - 1) / 2 → R (gd xs ((i - 1) / 2)) (gd xs i) = false
theorem hole_down {xs : List PV} {s q j : Nat} (H : Hole R xs s q) (d : Desc s q) (hq : q < xs.length) (hj : j < xs.length) (ej : (j - 1) / 2 = q) (hj0 : 0 < j) (best : ∀ i, 0 < i → i < xs.length → (i - 1) / 2 = q → i ≠ j → R (gd xs j) (gd xs i) = false) :
    Hole R (xs.set q (gd xs j)) s j := by
  have sq := d.le
  have jq : q < j := ej ▸ pa_lt hj0
  refine ⟨fun i h0 hi hs ij pj => ?_, fun i h0 hi pi hs => ?_⟩
  · rw [List.length_set] at hi
    rw [gd_set hq, gd_set hq]
    by_cases e1 : i = q
    · rw [if_pos e1, if_neg (by lia)]
      rw [e1]
      exact H.c j hj0 hj ej (by lia)
    · rw [if_neg e1]
      by_cases e2 : (i - 1) / 2 = q
      · rw [if_pos e2]
        exact best i h0 hi e2 ij
      · rw [if_neg e2]
        exact H.a i h0 hi hs e1 e2
  · rw [List.length_set] at hi
    rw [ej, gd_set hq, gd_set hq, if_pos rfl, if_neg (by lia)]
    have := H.a i h0 hi (by lia) (by lia) (by lia)
    rw [pi] at this
    exact this
theorem sup_hole (W : SWo S R) : ∀ n xs s q, AllS S xs → Hole R xs s q → Desc s q → q < xs.length → xs.length ≤ n + q →
    AllS S (sup (fun x y => !R y x) n xs q).1 ∧ Hole R (sup (fun x y => !R y x) n xs q).1 s (sup (fun x y => !R y x) n xs q).2 ∧ Desc s (sup (fun x y => !R y x) n xs q).2 ∧ xs.length ≤ 2 * (sup (fun x y => !R y x) n xs q).2 + 1
  | 0, xs, s, q, aS, H, d, hq, hn => by lia
  | n + 1, xs, s, q, aS, H, d, hq, hn => by
    unfold sup
    split
    · rename_i h1
      split
      · rename_i h2
        obtain ⟨h2, e⟩ := h2
        have e : R (gd xs (2 * q + 2)) (gd xs (2 * q + 1)) = false := by simpa using e
        have := sup_hole W n (xs.set q (gd xs (2 * q + 2))) s (2 * q + 2) (aS.set (aS.gd h2)) (hole_down H d hq h2 (by lia) (by lia) fun i h0 hi pi ij => ?_) d.right (by rw [List.length_set]; exact h2) (by rw [List.length_set]; lia)
        · rw [List.length_set] at this; exact this
        · have : i = 2 * q + 1 := by lia
          rw [this]; exact e
      · rename_i h2
        have := sup_hole W n (xs.set q (gd xs (2 * q + 1))) s (2 * q + 1) (aS.set (aS.gd h1)) (hole_down H d hq h1 (by lia) (by lia) fun i h0 hi pi ij => ?_) d.left (by rw [List.length_set]; exact h1) (by rw [List.length_set]; lia)
        · rw [List.length_set] at this; exact this
        · have ei : i = 2 * q + 2 := by lia
          rw [ei] at hi ⊢
          have : R (gd xs (2 * q + 2)) (gd xs (2 * q + 1)) = true := by
            cases z : R (gd xs (2 * q + 2)) (gd xs (2 * q + 1)) with
            | true => rfl
            | false => exact absurd ⟨hi, by simpa using z⟩ h2
          exact W.asym _ _ (aS.gd hi) (aS.gd h1) this
    · rename_i h1
      exact ⟨aS, H, d, by lia⟩
theorem sdown_heap (W : SWo S R) {x : PV} (hx : S x) : ∀ n xs s q, AllS S xs → Hole R xs s q → Desc s q → q < xs.length → q ≤ n → (∀ i, 0 < i → i < xs.length → (i - 1) / 2 = q → R x (gd xs i) = false) →
    HeapFrom R (sdown R s x n xs q) s ∧ AllS S (sdown R s x n xs q) := by
  have fin : ∀ xs s q, AllS S xs → Hole R xs s q → Desc s q → q < xs.length → (∀ i, 0 < i → i < xs.length → (i - 1) / 2 = q → R x (gd xs i) = false) → (s < q → R (gd xs ((q - 1) / 2)) x = false) → HeapFrom R (xs.set q x) s ∧ AllS S (xs.set q x) := by
    intro xs s q aS H d hq hb hp
    refine ⟨fun i h0 hi hs => ?_, aS.set hx⟩
    rw [List.length_set] at hi
    rw [gd_set hq, gd_set hq]
    by_cases e1 : i = q
    · rw [if_pos e1, if_neg fun z => Nat.ne_of_lt (pa_lt h0) (z.trans e1.symm), e1]
      exact hp (e1 ▸ Nat.lt_of_le_of_lt hs (pa_lt h0))
    · rw [if_neg e1]
      by_cases e2 : (i - 1) / 2 = q
      · rw [if_pos e2]; exact hb i h0 hi e2
      · rw [if_neg e2]; exact H.a i h0 hi hs e1 e2
  intro n
  induction n with
  | zero =>
    intro xs s q aS H d hq hn hb
    have := d.le
    exact fin xs s q aS H d hq hb (by lia)
  | succ n ih =>
    intro xs s q aS H d hq hn hb
    unfold sdown
    split
    · rename_i h
      obtain ⟨hs, hr⟩ := h
      have hr : R (gd xs ((q - 1) / 2)) x = true := hr
      have pl := pa_lt (Nat.zero_lt_of_lt hs)
      have hpl : (q - 1) / 2 < xs.length := Nat.lt_trans pl hq
      have Sp := aS.gd hpl
      have dp := d.up hs
      have sp := dp.le
      refine ih (xs.set q (gd xs ((q - 1) / 2))) s ((q - 1) / 2) (aS.set Sp) ⟨fun i h0 hi hsi e1 e2 => ?_, fun i h0 hi pi hsp => ?_⟩ dp (by rw [List.length_set]; exact hpl) (Nat.le_of_lt_succ (Nat.lt_of_lt_of_le pl hn)) fun i h0 hi pi => ?_
      · rw [List.length_set] at hi
        rw [gd_set hq, gd_set hq]
        by_cases f1 : i = q
        · exact absurd (f1 ▸ rfl) e2
        · rw [if_neg f1]
          by_cases f2 : (i - 1) / 2 = q
          · rw [if_pos f2]; exact H.c i h0 hi f2 hs
          · rw [if_neg f2]; exact H.a i h0 hi hsi f1 f2
      · rw [List.length_set] at hi
        have pl2 := pa_lt (Nat.zero_lt_of_lt hsp)
        rw [gd_set hq, gd_set hq, if_neg (Nat.ne_of_lt (Nat.lt_trans pl2 pl))]
        have dpp := dp.up hsp
        have spp := dpp.le
        have g1 : R (gd xs (((q - 1) / 2 - 1) / 2)) (gd xs ((q - 1) / 2)) = false := H.a ((q - 1) / 2) (Nat.zero_lt_of_lt hsp) hpl spp (Nat.ne_of_lt pl) (Nat.ne_of_lt (Nat.lt_trans pl2 pl))
        by_cases f1 : i = q
        · rw [if_pos f1]; exact g1
        · rw [if_neg f1]
          have g2 := H.a i h0 hi (pi ▸ sp) f1 fun z => Nat.ne_of_lt pl (pi.symm.trans z)
          rw [pi] at g2
          exact W.neg _ _ _ (aS.gd (Nat.lt_trans pl2 hpl)) Sp (aS.gd hi) g1 g2
      · rw [List.length_set] at hi
        rw [gd_set hq]
        have hxp : R x (gd xs ((q - 1) / 2)) = false := W.asym _ _ Sp hx hr
        by_cases f1 : i = q
        · rw [if_pos f1]; exact hxp
        · rw [if_neg f1]
          have g2 := H.a i h0 hi (pi ▸ sp) f1 fun z => Nat.ne_of_lt pl (pi.symm.trans z)
          rw [pi] at g2
          exact W.neg _ _ _ hx Sp (aS.gd hi) hxp g2
    · rename_i h
      refine fin xs s q aS H d hq hb fun hs => ?_
      cases z : R (gd xs ((q - 1) / 2)) x with
      | false => rfl
      | true => exact absurd ⟨hs, z⟩ h
theorem siftup_heap (W : SWo S R) {xs : List PV} {s : Nat} (aS : AllS S xs) (hs : s < xs.length) (H : HeapFrom R xs (s + 1)) : HeapFrom R (siftup R (fun x y => !R y x) xs s) s := by
  obtain ⟨a1, a2, a3, a4⟩ := sup_hole W xs.length xs s s aS ⟨fun i h0 hi hsi e1 e2 => H i h0 hi (by lia), fun i _ _ _ h => absurd h (Nat.lt_irrefl _)⟩ .here hs (by exact Nat.le_add_right _ _)
  unfold siftup
  have hl := sup_lt (fun x y => !R y x) xs.length xs s hs
  have hlen := sup_length (fun x y => !R y x) xs.length xs s
  generalize sup (fun x y => !R y x) xs.length xs s = r at *
  refine (sdown_heap W (aS.gd hs) r.2 _ s r.2 (a1.set (aS.gd hs)) ⟨fun i h0 hi hsi e1 e2 => ?_, fun i h0 hi pi hsp => ?_⟩ a3 (by rw [List.length_set]; lia) (Nat.le_refl _) fun i h0 hi pi => ?_).1
  · rw [List.length_set] at hi
    rw [gd_set (by lia), gd_set (by lia), if_neg e1, if_neg e2]
    exact a2.a i h0 hi hsi e1 e2
  · rw [List.length_set] at hi; lia
  · rw [List.length_set] at hi; lia
theorem siftup_all {b c : PV → PV → Bool} {xs : List PV} {s : Nat} (aS : AllS S xs) (hs : s < xs.length) : AllS S (siftup b c xs s) := fun p m => aS p ((siftup_perm b c hs).mem_iff.mp m)
theorem hfy_heap (W : SWo S R) : ∀ k xs, AllS S xs → k ≤ xs.length → HeapFrom R xs k → HeapFrom R (hfy R (fun x y => !R y x) k xs) 0
  | 0, _, _, _, H => H
  | k + 1, xs, aS, hk, H => by
    refine hfy_heap W k _ (siftup_all aS (by lia)) (by rw [siftup_length]; lia) (siftup_heap W aS (by lia) H)
theorem heapify_heap (W : SWo S R) {xs : List PV} (aS : AllS S xs) : HeapFrom R (hfy R (fun x y => !R y x) (xs.length / 2) xs) 0 :=
  hfy_heap W _ xs aS (by lia) fun i h0 hi hs => by lia
theorem heap_root (W : SWo S R) {xs : List PV} (aS : AllS S xs) (H : HeapFrom R xs 0) : ∀ i, i < xs.length → R (gd xs 0) (gd xs i) = false := by
  intro i
  induction i using Nat.strongRecOn with
  | ind i ih =>
    intro hi
    by_cases e : i = 0
    · rw [e]; exact W.irr (aS.gd (by lia))
    · have h0 := Nat.pos_of_ne_zero e
      have pl := pa_lt h0
      exact W.neg _ _ _ (aS.gd (Nat.lt_trans h0 hi)) (aS.gd (Nat.lt_trans pl hi)) (aS.gd hi) (ih ((i - 1) / 2) pl (Nat.lt_trans pl hi)) (H i h0 hi (Nat.zero_le _))
end

noncomputable def RI (kl : Nat → Nat → Bool) (i j : Nat) : Bool := kl i j || (!kl j i && decide (i < j))
section
variable {kl : Nat → Nat → Bool}
theorem ri_asym (W : WO kl) {i j : Nat} (h : RI kl i j = true) : RI kl j i = false := by
  unfold RI at h ⊢
  cases a : kl i j <;> cases b : kl j i <;> simp [a, b] at h ⊢
  · exact Nat.le_of_lt (by assumption)
  · have := W.asymm i j a; rw [b] at this; cases this
theorem ri_total (W : WO kl) {i j : Nat} (h : i ≠ j) (n : RI kl i j = false) : RI kl j i = true := by
  unfold RI at n ⊢
  cases a : kl i j <;> cases b : kl j i <;> simp [a, b] at n ⊢
  lia
theorem ri_trans (W : WO kl) {i j k : Nat} (h1 : RI kl i j = true) (h2 : RI kl j k = true) : RI kl i k = true := by
  unfold RI at h1 h2 ⊢
  cases a : kl i j with
  | true =>
    cases b : kl k j with
    | true => simp [b, W.asymm k j b] at h2
    | false =>
      have := W.ltr a b
      simp [this]
  | false =>
    simp [a] at h1
    cases b : kl j k with
    | true => have := W.rtl h1.1 b; simp [this]
    | false =>
      simp [b] at h2
      have t1 := W.trans i j k h1.1 h2.1
      have : decide (i < k) = true := by simp; lia
      simp [t1, this]
theorem ri_neg (W : WO kl) {i j k : Nat} (h1 : RI kl i j = false) (h2 : RI kl j k = false) : RI kl i k = false := by
  by_cases e1 : i = j
  · rw [e1]; exact h2
  · by_cases e2 : j = k
    · rw [← e2]; exact h1
    · exact ri_asym W (ri_trans W (ri_total W e2 h2) (ri_total W e1 h1))
structure Sel (kl : Nat → Nat → Bool) (I : List Nat) (j : Nat) : Prop where
  nd : I.Nodup
  lt : ∀ i ∈ I, i < j
  out : ∀ i, i < j → i ∉ I → ∀ x ∈ I, RI kl x i = true
theorem Sel.perm {I J : List Nat} {j : Nat} (s : Sel kl I j) (p : I.Perm J) : Sel kl J j :=
  ⟨p.nodup_iff.mp s.nd, fun i m => s.lt i (p.mem_iff.mpr m), fun i h m x hx => s.out i h (fun z => m (p.mem_iff.mp z)) x (p.mem_iff.mpr hx)⟩
theorem Sel.skip {I : List Nat} {j : Nat} (s : Sel kl I j) (h : ∀ x ∈ I, RI kl x j = true) : Sel kl I (j + 1) :=
  ⟨s.nd, fun i m => Nat.lt_succ_of_lt (s.lt i m), fun i hi m x hx => by
    by_cases e : i = j
    · rw [e]; exact h x hx
    · exact s.out i (by lia) m x hx⟩
theorem Sel.repl (W : WO kl) {J : List Nat} {r j : Nat} (s : Sel kl (r :: J) j) (h : RI kl j r = true) (hr : ∀ x ∈ J, RI kl x r = true) : Sel kl (j :: J) (j + 1) := by
  have nd := List.nodup_cons.mp s.nd
  refine ⟨List.nodup_cons.mpr ⟨fun m => Nat.lt_irrefl _ (s.lt j (.tail _ m)), nd.2⟩, fun i m => ?_, fun i hi m x hx => ?_⟩
  · rcases List.mem_cons.mp m with rfl | m
    · lia
    · exact Nat.lt_succ_of_lt (s.lt i (.tail _ m))
  · have ij : i ≠ j := fun e => m (e ▸ .head _)
    by_cases er : i = r
    · rw [er]
      rcases List.mem_cons.mp hx with rfl | hx
      · exact h
      · exact hr x hx
    · have mi : i ∉ r :: J := fun z => by
        rcases List.mem_cons.mp z with z | z
        · exact er z
        · exact m (.tail _ z)
      rcases List.mem_cons.mp hx with rfl | hx
      · exact ri_trans W h (s.out i (by lia) mi r (.head _))
      · exact s.out i (by lia) mi x (.tail _ hx)
theorem sorted_unique {α : Type} {R : α → α → Prop} (as : ∀ a b, R a b → ¬ R b a) : ∀ {l m : List α}, l.Perm m → l.Pairwise R → m.Pairwise R → l = m
  | [], m, p, _, _ => (List.Perm.nil_eq p)
  | a :: l, [], p, _, _ => by have := p.length_eq; simp at this
  | a :: l, b :: m, p, h1, h2 => by
    have h1' := List.pairwise_cons.mp h1
    have h2' := List.pairwise_cons.mp h2
    have e : a = b := by
      have ma : a ∈ b :: m := p.mem_iff.mp (.head _)
      have mb : b ∈ a :: l := p.mem_iff.mpr (.head _)
      rcases List.mem_cons.mp ma with e | ma
      · exact e
      · rcases List.mem_cons.mp mb with e | mb
        · exact e.symm
        · exact absurd (h2'.1 a ma) (as _ _ (h1'.1 b mb))
    subst e
    rw [sorted_unique as p.cons_inv h1'.2 h2'.2]
theorem sel_take (W : WO kl) {I P : List Nat} {N : Nat} (s : Sel kl I N) (h : I.Pairwise fun i j => RI kl i j = true) (p : P.Perm (List.range N)) (hp : P.Pairwise fun i j => RI kl i j = true) : I = P.take I.length := by
  have ndP : P.Nodup := p.nodup_iff.mpr List.nodup_range
  have key : I ++ P.filter (fun i => !I.contains i) = P := by
    refine sorted_unique (R := fun i j => RI kl i j = true) (fun a b h1 h2 => by rw [ri_asym W h1] at h2; cases h2) ?_ ?_ hp
    · have h1 : (P.filter (fun i => I.contains i)).Perm I := by
        refine (List.perm_ext_iff_of_nodup (ndP.filter _) s.nd).mpr fun a => ?_
        rw [List.mem_filter]
        constructor
        · intro h; simpa using h.2
        · intro h; exact ⟨p.mem_iff.mpr (List.mem_range.mpr (s.lt a h)), by simpa using h⟩
      have h2 : (P.filter (fun i => I.contains i) ++ P.filter (fun i => !I.contains i)).Perm P := List.filter_append_perm _ P
      exact (h1.symm.append_right _).trans h2
    · refine List.pairwise_append.mpr ⟨h, hp.sublist List.filter_sublist, fun a ha b hb => ?_⟩
      obtain ⟨hb1, hb2⟩ := List.mem_filter.mp hb
      exact s.out b (List.mem_range.mp (p.mem_iff.mp hb1)) (by simpa using hb2) a ha
  rw [← key]; simp
end
noncomputable def ltb (b : Bool) (lt : PV → PV → Bool) (p q : PV) : Bool := if b then lt q p else lt p q
theorem less_ri {kl : Nat → Nat → Bool} {x y : Nat} (h : less kl x y) : RI kl x y = true := by
  unfold RI
  rcases h with h | ⟨h1, h2⟩
  · simp [h]
  · simp [h1, h2]
theorem ssort_idx {lt : PV → PV → Bool} {kv : PV → PV} {ps : List PV} {kl : Nat → Nat → Bool} (W : WO kl) (h0 : 0 < ps.length) (hk : ∀ i j, i < ps.length → j < ps.length → kl i j = lt (kv (ps.getD i .none)) (kv (ps.getD j .none))) :
    ∃ P : List Nat, P.Perm (List.range ps.length) ∧ P.Pairwise (fun i j => RI kl i j = true) ∧ ssort lt kv ps = P.map fun i => ps.getD i .none := by
  have pre := sort_pre W h0
  refine ⟨(kev kl (kas_sort ps.length)).toList, pre.perm, ?_, ?_⟩
  · rw [List.pairwise_iff_getElem]
    intro i j hi hj hij
    rw [Array.length_toList, pre.size] at hi hj
    have := less_ri (pre.srt i j hij hj)
    have e : ∀ k (hk : k < (kev kl (kas_sort ps.length)).toList.length), (kev kl (kas_sort ps.length)).toList[k] = at' (kev kl (kas_sort ps.length)) k := fun k hk => by
      have h1 : k < (kev kl (kas_sort ps.length)).size := by simpa using hk
      have := get_at h1
      rw [Array.getElem?_eq_getElem h1] at this
      simpa using Option.some.inj this
    rw [e, e]; exact this
  · unfold ssort
    rw [kev_congr (l2 := kl) (fun i j hi hj => (hk i j hi hj).symm) _ (kp_sort h0)]
theorem sortOut_idx {b : Bool} {lt : PV → PV → Bool} {kv : PV → PV} {ps : List PV} {kl : Nat → Nat → Bool} (W : WO kl) (h0 : 0 < ps.length) (hk : ∀ i j, i < ps.length → j < ps.length → kl i j = ltb b lt (kv (ps.getD i .none)) (kv (ps.getD j .none))) :
    ∃ P : List Nat, P.Perm (List.range ps.length) ∧ P.Pairwise (fun i j => RI kl i j = true) ∧ sortOut b lt kv ps = P.map fun i => ps.getD i .none := by
  cases b with
  | false => exact ssort_idx W h0 hk
  | true =>
    have W' : WO (fun i j => kl (ps.length - 1 - j) (ps.length - 1 - i)) := ⟨fun i j h => W.asymm _ _ h, fun i j k h1 h2 => W.trans _ _ _ h2 h1⟩
    have gr : ∀ i, i < ps.length → ps.reverse.getD i .none = ps.getD (ps.length - 1 - i) .none := fun i hi => by
      rw [List.getD_eq_getElem?_getD, List.getD_eq_getElem?_getD, List.getElem?_reverse hi]
    obtain ⟨P, p1, p2, p3⟩ := ssort_idx (lt := lt) (kv := kv) (ps := ps.reverse) W' (by simpa using h0) (fun i j hi hj => by
      rw [List.length_reverse] at hi hj
      rw [gr i hi, gr j hj, hk _ _ (rv_lt hj) (rv_lt hi)]
      rfl)
    rw [List.length_reverse] at p1
    have ml : ∀ i ∈ P, i < ps.length := fun i m => List.mem_range.mp (p1.mem_iff.mp m)
    have ndP : P.Nodup := p1.nodup_iff.mpr List.nodup_range
    refine ⟨P.reverse.map fun i => ps.length - 1 - i, ?_, ?_, ?_⟩
    · refine (List.perm_ext_iff_of_nodup ?_ List.nodup_range).mpr fun a => ?_
      · refine List.pairwise_map.mpr ?_
        refine (show P.reverse.Pairwise (· ≠ ·) from (List.reverse_perm P).nodup_iff.mpr ndP).imp_of_mem fun {a c} ha hc h z => h ?_
        exact (rv_rv (ml a (List.mem_reverse.mp ha))).symm.trans ((congrArg (ps.length - 1 - ·) z).trans (rv_rv (ml c (List.mem_reverse.mp hc))))
      · rw [List.mem_map, List.mem_range]
        constructor
        · rintro ⟨x, hx, rfl⟩; exact rv_lt (ml x (List.mem_reverse.mp hx))
        · intro ha
          exact ⟨ps.length - 1 - a, List.mem_reverse.mpr (p1.mem_iff.mpr (List.mem_range.mpr (rv_lt ha))), rv_rv ha⟩
    · refine List.pairwise_map.mpr (List.pairwise_reverse.mpr (p2.imp_of_mem fun {a c} ha hc h => ?_))
      have ha := ml a ha
      have hc := ml c hc
      unfold RI at h ⊢
      have : decide (ps.length - 1 - c < ps.length - 1 - a) = decide (a < c) := by
        by_cases e : a < c
        · rw [decide_eq_true e, decide_eq_true (rv_anti e hc)]
        · rw [decide_eq_false e, decide_eq_false (Nat.not_lt.mpr (Nat.sub_le_sub_left (Nat.not_lt.mp e) _))]
      rw [this]; exact h
    · show (ssort lt kv ps.reverse).reverse = _
      rw [p3, ← List.map_reverse, List.map_map]
      exact List.map_congr_left fun i m => gr i (ml i (List.mem_reverse.mp m))

noncomputable abbrev Tr := Addr × Nat × Int
noncomputable def ixOf (trs : List Tr) : PV → Nat
  | .ref a => ((trs.find? fun x => x.1 == a).map (·.2.1)).getD 0
  | _ => 0
theorem ixOf_ref {trs : List Tr} {a : Addr} : ixOf trs (.ref a) = ((trs.find? fun x => x.1 == a).map (·.2.1)).getD 0 := rfl
theorem ixOf_mem : ∀ {trs : List Tr}, (trs.map (·.1)).Nodup → ∀ {x : Tr}, x ∈ trs → ixOf trs (.ref x.1) = x.2.1
  | y :: trs, nd, x, m => by
    obtain ⟨n1, n2⟩ := List.nodup_cons.mp nd
    rcases List.mem_cons.mp m with rfl | m
    · simp [ixOf_ref]
    · have ne : (y.1 == x.1) = false := by
        have : y.1 ≠ x.1 := fun e => n1 (List.mem_map.mpr ⟨x, m, e.symm⟩)
        simpa using this
      have := ixOf_mem n2 m
      rw [ixOf_ref] at this ⊢
      rw [List.find?_cons, ne]; exact this
theorem ixOf_cons {trs : List Tr} {y : Tr} {p : PV} (h : p ≠ .ref y.1) : ixOf (y :: trs) p = ixOf trs p := by
  cases p <;> try rfl
  rename_i a
  have : (y.1 == a) = false := by
    have : y.1 ≠ a := fun e => h (by rw [e])
    simpa using this
  rw [ixOf_ref, ixOf_ref]
  rw [List.find?_cons, this]
theorem ixOf_here {trs : List Tr} {y : Tr} : ixOf (y :: trs) (.ref y.1) = y.2.1 := by simp [ixOf_ref]
noncomputable def RR (kl : Nat → Nat → Bool) (trs : List Tr) (p q : PV) : Bool := RI kl (ixOf trs p) (ixOf trs q)
theorem rr_sw {kl : Nat → Nat → Bool} (W : WO kl) (trs : List Tr) : SWo (fun _ => True) (RR kl trs) :=
  ⟨fun _ _ _ _ h => ri_asym W h, fun _ _ _ _ _ _ h1 h2 => ri_neg W h1 h2⟩
theorem rr_all (xs : List PV) : AllS (fun _ => True) xs := fun _ _ => trivial
structure HI (b : Bool) (kl : Nat → Nat → Bool) (n j : Nat) (order : Int) (trs : List Tr) (ps : List PV) : Prop where
  len : ps.length = n
  mem : ∀ p ∈ ps, ∃ x ∈ trs, p = .ref x.1
  nd : (trs.map (·.1)).Nodup
  inj : (trs.map (·.2.1)).Nodup
  sel : Sel kl (ps.map (ixOf trs)) j
  mono : ∀ x ∈ trs, ∀ y ∈ trs, x.2.1 < y.2.1 → if b then y.2.2 < x.2.2 else x.2.2 < y.2.2
  bound : ∀ x ∈ trs, x.2.1 < j ∧ (if b then order < x.2.2 else x.2.2 < order)
section
variable {b : Bool} {kl : Nat → Nat → Bool} {n j : Nat} {order : Int} {trs : List Tr} {ps : List PV}
theorem HI.perm (H : HI b kl n j order trs ps) {qs : List PV} (p : ps.Perm qs) : HI b kl n j order trs qs :=
  ⟨p.length_eq ▸ H.len, fun q m => H.mem q (p.mem_iff.mpr m), H.nd, H.inj, H.sel.perm (p.map _), H.mono, H.bound⟩
theorem HI.more {m : Nat} (H : HI b kl n j order trs ps) {T : Addr} (hT : T ∉ trs.map (·.1)) {qs : List PV} (hq : qs.length = m) (hm : ∀ q ∈ qs, q = .ref T ∨ q ∈ ps) (hs : Sel kl (qs.map (ixOf ((T, j, order) :: trs))) (j + 1)) :
    HI b kl m (j + 1) (if b then order - 1 else order + 1) ((T, j, order) :: trs) qs := by
  refine ⟨hq, fun q m => ?_, List.nodup_cons.mpr ⟨hT, H.nd⟩, List.nodup_cons.mpr ⟨fun m => ?_, H.inj⟩, hs, fun x hx y hy hxy => ?_, fun x hx => ?_⟩
  · rcases hm q m with rfl | m
    · exact ⟨_, .head _, rfl⟩
    · obtain ⟨x, hx, e⟩ := H.mem q m
      exact ⟨x, .tail _ hx, e⟩
  · obtain ⟨x, hx, e⟩ := List.mem_map.mp m
    have := (H.bound x hx).1
    have e : x.2.1 = j := e
    lia
  · rcases List.mem_cons.mp hx with rfl | hx
    · rcases List.mem_cons.mp hy with rfl | hy
      · exact absurd hxy (Nat.lt_irrefl _)
      · have := (H.bound y hy).1
        have hxy : j < y.2.1 := hxy
        lia
    · rcases List.mem_cons.mp hy with rfl | hy
      · have := (H.bound x hx).2
        exact this
      · exact H.mono x hx y hy hxy
  · rcases List.mem_cons.mp hx with rfl | hx
    · refine ⟨Nat.lt_succ_self _, ?_⟩
      cases b
      · show order < order + 1; lia
      · show order - 1 < order; lia
    · have := H.bound x hx
      refine ⟨Nat.lt_succ_of_lt this.1, ?_⟩
      cases b
      · have h2 : x.2.2 < order := this.2
        show x.2.2 < order + 1; lia
      · have h2 : order < x.2.2 := this.2
        show order - 1 < x.2.2; lia
theorem HI.fresh (H : HI b kl n j order trs ps) {T : Addr} (hT : T ∉ trs.map (·.1)) {o : Nat × Int} {p : PV} (m : p ∈ ps) : ixOf ((T, o) :: trs) p = ixOf trs p := by
  obtain ⟨x, hx, rfl⟩ := H.mem p m
  exact ixOf_cons fun e => hT (by
    have : x.1 = T := by injection e
    exact this ▸ List.mem_map.mpr ⟨x, hx, rfl⟩)
theorem HI.skip (W : WO kl) (H : HI b kl n j order trs ps) (hp : HeapFrom (RR kl trs) ps 0) (hn : 0 < n) (h : kl j (ixOf trs (gd ps 0)) = false) : HI b kl n (j + 1) order trs ps := by
  refine ⟨H.len, H.mem, H.nd, H.inj, H.sel.skip fun x hx => ?_, H.mono, fun x hx => ⟨Nat.lt_succ_of_lt (H.bound x hx).1, (H.bound x hx).2⟩⟩
  obtain ⟨p, hpm, rfl⟩ := List.mem_map.mp hx
  have h0 : 0 < ps.length := by rw [H.len]; exact hn
  have hr : RI kl (ixOf trs (gd ps 0)) j = true := by
    have := H.sel.lt _ (List.mem_map.mpr ⟨_, gd_mem h0, rfl⟩)
    unfold RI
    rw [h, decide_eq_true this]
    simp
  obtain ⟨i, hi, e⟩ := List.getElem_of_mem hpm
  have root := heap_root (rr_sw W trs) (rr_all ps) hp i hi
  have eg : gd ps i = p := by rw [← e]; simp [gd, hi]
  rw [eg] at root
  by_cases e1 : ixOf trs (gd ps 0) = ixOf trs p
  · rw [← e1]; exact hr
  · exact ri_trans W (ri_total W e1 root) hr
theorem HI.repl (W : WO kl) (H : HI b kl n j order trs ps) (hp : HeapFrom (RR kl trs) ps 0) (hn : 0 < n) (h : kl j (ixOf trs (gd ps 0)) = true) {T : Addr} (hT : T ∉ trs.map (·.1)) :
    HI b kl n (j + 1) (if b then order - 1 else order + 1) ((T, j, order) :: trs) (siftup (RR kl ((T, j, order) :: trs)) (fun x y => !RR kl ((T, j, order) :: trs) y x) (ps.set 0 (.ref T)) 0) ∧
      HeapFrom (RR kl ((T, j, order) :: trs)) (siftup (RR kl ((T, j, order) :: trs)) (fun x y => !RR kl ((T, j, order) :: trs) y x) (ps.set 0 (.ref T)) 0) 0 := by
  have h0 : 0 < ps.length := by rw [H.len]; exact hn
  have root := heap_root (rr_sw W trs) (rr_all ps) hp
  obtain ⟨r, rest, rfl⟩ : ∃ r rest, ps = r :: rest := by
    cases ps with
    | nil => simp at h0
    | cons r rest => exact ⟨r, rest, rfl⟩
  have hset : (r :: rest).set 0 (.ref T) = .ref T :: rest := rfl
  have h : kl j (ixOf trs r) = true := h
  have nds := H.sel.nd
  rw [List.map_cons] at nds
  have sel : Sel kl ((.ref T :: rest).map (ixOf ((T, j, order) :: trs))) (j + 1) := by
    rw [List.map_cons, ixOf_here, List.map_congr_left fun p m => H.fresh hT (.tail _ m)]
    refine (show Sel kl (ixOf trs r :: rest.map (ixOf trs)) j from H.sel).repl W (by unfold RI; simp [h]) fun x hx => ?_
    obtain ⟨p, hpm, rfl⟩ := List.mem_map.mp hx
    obtain ⟨i, hi, e⟩ := List.getElem_of_mem hpm
    have rt := root (i + 1) (by simpa using hi)
    have eg : gd (r :: rest) (i + 1) = p := by rw [← e]; simp [gd, hi]
    rw [eg] at rt
    refine ri_total W (fun z => (List.nodup_cons.mp nds).1 ?_) rt
    rw [show ixOf trs r = ixOf trs p from z]; exact hx
  have pm : (siftup (RR kl ((T, j, order) :: trs)) (fun x y => !RR kl ((T, j, order) :: trs) y x) ((r :: rest).set 0 (.ref T)) 0).Perm (.ref T :: rest) := by
    rw [hset]; exact siftup_perm _ _ (by simp)
  constructor
  · have H1 := H.more hT (qs := .ref T :: rest) (by have := H.len; simpa using this) (fun q m => by
      rcases List.mem_cons.mp m with e | m
      · exact .inl e
      · exact .inr (.tail _ m)) sel
    exact H1.perm pm.symm
  · refine siftup_heap (rr_sw W _) (rr_all _) (by simp) fun i hi0 hi hs => ?_
    have hi' : i < (r :: rest).length := by simpa using hi
    have g : ∀ k, 1 ≤ k → k < (r :: rest).length → gd ((r :: rest).set 0 (.ref T)) k = gd (r :: rest) k ∧ ixOf ((T, j, order) :: trs) (gd (r :: rest) k) = ixOf trs (gd (r :: rest) k) := fun k h1 h2 =>
      ⟨by rw [gd_set (by simp), if_neg (by lia)], H.fresh hT (gd_mem h2)⟩
    have a1 := g ((i - 1) / 2) (by assumption) (by lia)
    have a2 := g i (by lia) hi'
    unfold RR
    rw [a1.1, a2.1, a1.2, a2.2]
    exact hp i hi0 hi' (by exact Nat.zero_le _)
theorem HI.heapify (W : WO kl) (H : HI b kl n j order trs ps) : HI b kl n j order trs (hfy (RR kl trs) (fun x y => !RR kl trs y x) (ps.length / 2) ps) ∧ HeapFrom (RR kl trs) (hfy (RR kl trs) (fun x y => !RR kl trs y x) (ps.length / 2) ps) 0 :=
  ⟨H.perm (hfy_perm _ _ _ _ (by lia)).symm, heapify_heap (rr_sw W trs) (rr_all ps)⟩
theorem HI.done {N : Nat} (W : WO kl) (H : HI b kl n N order trs ps) (hn : 0 < n) {P : List Nat} (p1 : P.Perm (List.range N)) (p2 : P.Pairwise fun i j => RI kl i j = true) :
    (∀ p ∈ sortOut b (if b then fun p q => RR kl trs q p else RR kl trs) id ps, p ∈ ps) ∧ (sortOut b (if b then fun p q => RR kl trs q p else RR kl trs) id ps).map (ixOf trs) = P.take n := by
  have W2 : WO (fun i j => RR kl trs (ps.getD i .none) (ps.getD j .none)) := ⟨fun i j h => ri_asym W h, fun i j k h1 h2 => ri_neg W h2 h1⟩
  have hl : 0 < ps.length := by rw [H.len]; exact hn
  obtain ⟨P2, q1, q2, q3⟩ := sortOut_idx (b := b) (lt := if b then fun p q => RR kl trs q p else RR kl trs) (kv := id) (ps := ps) W2 hl (fun i j _ _ => by cases b <;> rfl)
  have ml : ∀ i ∈ P2, i < ps.length := fun i m => List.mem_range.mp (q1.mem_iff.mp m)
  have pm : (P2.map fun i => ps.getD i .none).Perm ps := by
    refine (q1.map _).trans (List.Perm.of_eq ?_)
    refine List.ext_getElem (by simp) fun i h1 h2 => ?_
    simp [h2]
  rw [q3]
  refine ⟨fun p m => pm.mem_iff.mp m, ?_⟩
  have sel := H.sel.perm (pm.map (ixOf trs)).symm
  have nd2 : P2.Nodup := q1.nodup_iff.mpr List.nodup_range
  have := sel_take W sel (List.pairwise_map.mpr (List.pairwise_map.mpr ?_)) p1 p2
  · rw [this, List.length_map, pm.length_eq, H.len]
  · have both : P2.Pairwise (fun i j => i ≠ j ∧ RI (fun i j => RR kl trs (ps.getD i .none) (ps.getD j .none)) i j = true) := nd2.and q2
    refine both.imp_of_mem fun {i j} hi hj h => ?_
    obtain ⟨ne, h⟩ := h
    have ix : ixOf trs (ps.getD i .none) ≠ ixOf trs (ps.getD j .none) := fun z => by
      have nd := H.sel.nd
      have hi := ml i hi
      have hj := ml j hj
      have gi : (ps.map (ixOf trs))[i]? = some (ixOf trs (ps.getD i .none)) := by simp [hi]
      have gj : (ps.map (ixOf trs))[j]? = some (ixOf trs (ps.getD j .none)) := by simp [hj]
      have := (List.getElem?_inj (by simpa using hi) nd).mp (gi.trans (by rw [z, ← gj]))
      exact ne this
    cases c : RI kl (ixOf trs (ps.getD i .none)) (ixOf trs (ps.getD j .none)) with
    | true => rfl
    | false =>
      have c2 := ri_total W ix c
      unfold RI at h
      have h : (RR kl trs (ps.getD i .none) (ps.getD j .none) || (!RR kl trs (ps.getD j .none) (ps.getD i .none) && decide (i < j))) = true := h
      unfold RR at h
      rw [c, c2] at h
      simp at h
theorem HI.ltT (H : HI b kl n j order trs ps) {e lt : PV → PV → Bool} {K : Nat → PV} {el : Nat → Int} (hk : ∀ i j, kl i j = ltb b lt (K i) (K j)) (lin : ∀ i j, e (K i) (K j) = (!lt (K i) (K j) && !lt (K j) (K i))) (asym : ∀ i j, lt (K i) (K j) = true → lt (K j) (K i) = false) {x y : Tr} (hx : x ∈ trs) (hy : y ∈ trs) :
    Mine.ltT e lt (K x.2.1) x.2.2 (el x.2.1) (K y.2.1) y.2.2 (el y.2.1) = (if b then fun p q => RR kl trs q p else RR kl trs) (.ref x.1) (.ref y.1) := by
  have e1 := ixOf_mem H.nd hx
  have e2 := ixOf_mem H.nd hy
  have inj : x.2.1 = y.2.1 → x = y := fun z => by
    obtain ⟨i, hi, ei⟩ := List.getElem_of_mem hx
    obtain ⟨k, hk, ek⟩ := List.getElem_of_mem hy
    have g1 : (trs.map (·.2.1))[i]? = some x.2.1 := by simp [hi, ei]
    have g2 : (trs.map (·.2.1))[k]? = some y.2.1 := by simp [hk, ek]
    have := (List.getElem?_inj (by simpa using hi) H.inj).mp (g1.trans (by rw [z, ← g2]))
    subst this
    rw [← ei, ← ek]
  unfold Mine.ltT
  rw [lin]
  cases b with
  | false =>
    show _ = RR kl trs (.ref x.1) (.ref y.1)
    unfold RR RI
    rw [e1, e2, hk, hk]
    simp only [ltb, Bool.false_eq_true, if_false]
    cases c1 : lt (K x.2.1) (K y.2.1) with
    | true => simp
    | false =>
      cases c2 : lt (K y.2.1) (K x.2.1) with
      | true => simp
      | false =>
        simp only [Bool.not_false, Bool.and_self, if_true, Bool.false_or, Bool.true_and]
        rcases Nat.lt_trichotomy x.2.1 y.2.1 with z | z | z
        · have : x.2.2 < y.2.2 := H.mono x hx y hy z
          rw [if_neg (by lia), decide_eq_true this, decide_eq_true z]
        · have := inj z
          subst this
          simp
        · have : y.2.2 < x.2.2 := H.mono y hy x hx z
          rw [if_neg (by lia), decide_eq_false (by lia), decide_eq_false (by lia)]
  | true =>
    show _ = RR kl trs (.ref y.1) (.ref x.1)
    unfold RR RI
    rw [e1, e2, hk, hk]
    simp only [ltb, if_true]
    cases c1 : lt (K x.2.1) (K y.2.1) with
    | true => simp
    | false =>
      cases c2 : lt (K y.2.1) (K x.2.1) with
      | true => simp
      | false =>
        simp only [Bool.not_false, Bool.and_self, if_true, Bool.false_or, Bool.true_and]
        rcases Nat.lt_trichotomy x.2.1 y.2.1 with z | z | z
        · have : y.2.2 < x.2.2 := H.mono x hx y hy z
          rw [if_neg (by lia), decide_eq_false (by lia), decide_eq_false (by lia)]
        · have := inj z
          subst this
          simp
        · have : x.2.2 < y.2.2 := H.mono y hy x hx z
          rw [if_neg (by lia), decide_eq_true this, decide_eq_true z]
theorem HI.start : HI b kl 0 0 0 [] [] := ⟨rfl, (fun _ m => by simp at m), by simp, by simp, ⟨by simp, (fun _ m => by simp at m), (fun _ h => by lia)⟩, (fun _ m => by simp at m), (fun _ m => by simp at m)⟩
theorem HI.grow (H : HI b kl j j order trs ps) (hr : ps.map (ixOf trs) = List.range j) {T : Addr} (hT : T ∉ trs.map (·.1)) :
    HI b kl (j + 1) (j + 1) (if b then order - 1 else order + 1) ((T, j, order) :: trs) (ps ++ [PV.ref T]) ∧ (ps ++ [PV.ref T]).map (ixOf ((T, j, order) :: trs)) = List.range (j + 1) := by
  have hr' : (ps ++ [PV.ref T]).map (ixOf ((T, j, order) :: trs)) = List.range (j + 1) := by
    rw [List.map_append, List.map_cons, List.map_nil, ixOf_here, List.map_congr_left fun p m => H.fresh hT m, hr, List.range_succ]
  refine ⟨H.more hT (by rw [List.length_append, H.len]; rfl) (fun q m => ?_) ?_, hr'⟩
  · rcases List.mem_append.mp m with m | m
    · exact .inr m
    · exact .inl (List.mem_singleton.mp m)
  · rw [hr']
    exact ⟨List.nodup_range, fun i m => List.mem_range.mp m, fun i h m => absurd (List.mem_range.mpr h) m⟩
end
theorem min_sel {kl : Nat → Nat → Bool} (W : WO kl) {ps : List PV} {better : PV → PV → Bool} (hk : ∀ i j, i < ps.length → j < ps.length → kl i j = better (ps.getD i .none) (ps.getD j .none)) :
    ∀ (m i j : Nat), j + m = ps.length → i < j → Sel kl [i] j → ∃ k, k < ps.length ∧ minGo better (ps.getD i .none) (ps.drop j) = ps.getD k .none ∧ Sel kl [k] ps.length
  | 0, i, j, e, hi, s => by
    obtain rfl : j = ps.length := by lia
    exact ⟨i, hi, by rw [List.drop_length]; rfl, s⟩
  | m + 1, i, j, e, hi, s => by
    have hj : j < ps.length := by lia
    rw [drop_get (List.getElem?_eq_getElem hj), minGo_c]
    have ej : ps[j] = ps.getD j .none := by simp [hj]
    rw [ej, ← hk j i hj (by lia)]
    cases c : kl j i with
    | true =>
      rw [if_pos rfl]
      exact min_sel W hk m j (j + 1) (by lia) (by lia) (s.repl W (by unfold RI; rw [c]; simp) (fun _ m => by simp at m))
    | false =>
      rw [if_neg Bool.false_ne_true]
      refine min_sel W hk m i (j + 1) (by lia) (by lia) (s.skip fun x hx => ?_)
      rw [List.mem_singleton.mp hx]
      unfold RI
      rw [c, decide_eq_true hi]
      simp
theorem min_sorted {b : Bool} {lt : PV → PV → Bool} {kv : PV → PV} {p : PV} {r : List PV} {kl : Nat → Nat → Bool} (W : WO kl) (hk : ∀ i j, i < (p :: r).length → j < (p :: r).length → kl i j = ltb b lt (kv ((p :: r).getD i .none)) (kv ((p :: r).getD j .none))) :
    [minGo (fun x y => ltb b lt (kv x) (kv y)) p r] = (sortOut b lt kv (p :: r)).take 1 := by
  obtain ⟨P, p1, p2, p3⟩ := sortOut_idx (b := b) (lt := lt) (kv := kv) (ps := p :: r) W (by simp) hk
  obtain ⟨k, h1, h2, h3⟩ := min_sel W (ps := p :: r) (better := fun x y => ltb b lt (kv x) (kv y)) hk r.length 0 1 (by simp; lia) (by lia) ⟨by simp, (fun i m => by rw [List.mem_singleton.mp m]; lia), (fun i h m => absurd (List.mem_singleton.mpr (by lia)) m)⟩
  have h4 := sel_take W h3 (by simp) p1 p2
  rw [p3, ← List.map_take]
  rw [show P.take 1 = [k] from h4.symm]
  simp only [List.drop_succ_cons, List.drop_zero, List.getD_cons_zero] at h2
  rw [h2]
  simp

section
variable {C : Cx} {A : Around} {h h₀ h' : Heap} {env : Env} {l l' : List (Str × Option PV)} {cs cs' ds : List (Addr × AO)} {K : Frag}
theorem x_exprA {e : Expr} {pos : Pos} {rest : List Stmt} {Q : Flow → Heap → Prop} (x : Wp C A (eval e env) (fun _ h1 => Wp C A (execs rest env) Q h1) h)
    (hi : interactive env = false := by rfl) (hs : swapsWith e none pos.line env = Pure.pure false := by rfl) : Wp C A (execs (.Expr e pos :: rest) env) Q h :=
  x_cons fun t => wpAny_Expr_any (x.seq t fun _ _ _ q => ⟨_, _, rfl, q⟩) hi hs
theorem FnAt.keeps {f : Addr} (x : PySem.W.FnAt f h) (k : Keeps h h') : PySem.W.FnAt f h' := by
  obtain ⟨a, b, c, d, e⟩ := x
  exact ⟨a, b, c, d, k _ _ e⟩
theorem w_call_fnW {x : Str} {p0 pos : Pos} {e : Expr} {r : List Expr} {f : Addr} {Q : Value → Heap → Prop} (g : Gl C A env h x (.ref f)) (hf : PySem.W.FnAt f h)
    (y : Wp C A (spliced (backTo pos (starEach (e :: r) env))) (fun vs h1 => PySem.W.FnAt f h1 ∧ Wp C A (call (.ref f) vs) Q h1) h)
    (he : starEach (e :: r) env = (false, eval e env) :: starEach r env := by rfl) (hp : (backTo pos (starEach r env)).any (·.1) = false := by rfl) :
    Wp C A (eval (.Call (.Name x p0) (e :: r) [] pos) env) Q h := fun t =>
  Call_ ((g p0 (fun v h1 => v = .ref f ∧ h1 = h) ⟨rfl, rfl⟩).seq t fun v h1 t1 q1 => by
    obtain ⟨rfl, rfl⟩ := q1
    have X : PySem.W.FnAt f h1 := hf
    refine callWith_F (first := []) X (y.seq t1 fun vs h2 t2 q2 => ⟨q2.1, q2.2 t2⟩) he hp)
noncomputable def trCell (K : Nat → PV) (el : Nat → Int) (x : Tr) : Addr × AO := (x.1, tri (K x.2.1) x.2.2 (el x.2.1))
theorem fresh_tr {T : Addr} {x : AO} {K : Nat → PV} {el : Nat → Int} {trs : List Tr} (Z : St env h₀ l ((T, x) :: cs) h) (hs : ∀ y ∈ trs, trCell K el y ∈ cs) : T ∉ trs.map (·.1) := fun m => by
  obtain ⟨y, hy, e⟩ := List.mem_map.mp m
  have nd := (List.nodup_cons.mp Z.nd).2
  exact (List.nodup_cons.mp nd).1 (List.mem_map.mpr ⟨_, hs y hy, e⟩)
theorem HI.at {b : Bool} {kl : Nat → Nat → Bool} {n j : Nat} {order : Int} {trs : List Tr} {ps : List PV} (H : HI b kl n j order trs ps) {p : PV} (m : p ∈ ps) : ∃ a o, p = .ref a ∧ (a, ixOf trs p, o) ∈ trs ∧ ixOf trs p < j := by
  obtain ⟨⟨a, i, o⟩, hx, rfl⟩ := H.mem p m
  have := ixOf_mem H.nd hx
  exact ⟨a, o, rfl, by rw [this]; exact hx, by rw [this]; exact (H.bound _ hx).1⟩
theorem cm_heap {b : Bool} {n N j : Nat} {order : Int} {trs : List Tr} {ps qs : List PV} {ks : PV → Prop} {e lt : PV → PV → Bool} {T : Value} {Kf : Nat → PV} {el : Nat → Int} (X : KeyTy C n h₀ ks e lt T) (hA : Rm (n + 1) A) (kp : Keeps h₀ h)
    (H : HI b (fun i j => ltb b lt (Kf i) (Kf j)) N j order trs ps) (hK : ∀ i, ks (Kf i)) (ho : ∀ x ∈ trs, Own h (trCell Kf el x).1 (trCell Kf el x).2) {p q : PV} (hp : ∃ x ∈ trs, p = .ref x.1) (hq : ∃ x ∈ trs, q = .ref x.1) :
    Cm C A h .Lt p q ((if b then fun p q => RR (fun i j => ltb b lt (Kf i) (Kf j)) trs q p else RR (fun i j => ltb b lt (Kf i) (Kf j)) trs) p q) := by
  obtain ⟨x, hx, rfl⟩ := hp
  obtain ⟨y, hy, rfl⟩ := hq
  rw [← H.ltT (e := e) (lt := lt) (K := Kf) (el := el) (fun _ _ => rfl) (fun i j => X.lin _ _ (hK i) (hK j)) (fun i j => X.asym _ _ (hK i) (hK j)) hx hy]
  exact c_lt_tri X hA kp (hK _) (hK _) (ho x hx) (ho y hy)
theorem kl_heap {b : Bool} {n N j : Nat} {order : Int} {trs : List Tr} {ps qs : List PV} {ks : PV → Prop} {e lt : PV → PV → Bool} {T : Value} {Kf : Nat → PV} {el : Nat → Int} (X : KeyTy C n h₀ ks e lt T) (hA : Rm n A) (kp : Keeps h₀ h)
    (H : HI b (fun i j => ltb b lt (Kf i) (Kf j)) N j order trs ps) (hK : ∀ i, ks (Kf i)) (ho : ∀ x ∈ trs, Own h (trCell Kf el x).1 (trCell Kf el x).2) {p q : PV} (hp : ∃ x ∈ trs, p = .ref x.1) (hq : ∃ x ∈ trs, q = .ref x.1)
    {u v : Value} (hu : pv u = p) (hv : pv v = q) {R : Bool → Heap → Prop} (k : R ((if b then fun p q => RR (fun i j => ltb b lt (Kf i) (Kf j)) trs q p else RR (fun i j => ltb b lt (Kf i) (Kf j)) trs) p q) h) : Wp C A (keyLt' (tuples' true) u v) R h := by
  obtain ⟨x, hx, rfl⟩ := hp
  obtain ⟨y, hy, rfl⟩ := hq
  obtain rfl := pv_ref hu
  obtain rfl := pv_ref hv
  rw [← H.ltT (e := e) (lt := lt) (K := Kf) (el := el) (fun _ _ => rfl) (fun i j => X.lin _ _ (hK i) (hK j)) (fun i j => X.asym _ _ (hK i) (hK j)) hx hy] at k
  exact kl_tri X hA kp (hK _) (hK _) (ho x hx) (ho y hy) k
theorem katTups {ks : PV → Prop} : ∀ (vs : List Value), (∀ v ∈ vs, ∃ a k i e, v = .ref a ∧ ks k ∧ Own h a (tri k i e)) → ∃ fs, KatTups h vs fs ∧ fs.length = vs.length ∧ ∀ f ∈ fs, ks (pv f)
  | [], _ => ⟨[], .nil, rfl, fun _ m => by simp at m⟩
  | v :: vs, hv => by
    obtain ⟨a, k, i, e, rfl, hk, o⟩ := hv v (.head _)
    obtain ⟨fs, t, hl, hf⟩ := katTups vs fun v m => hv v (.tail _ m)
    obtain ⟨u, t1, t2, n, g, pu⟩ := own_tri o
    exact ⟨u :: fs, .cons g rfl rfl rfl t, by simp [hl], fun f m => by
      rcases List.mem_cons.mp m with rfl | m
      · rw [pu]; exact hk
      · exact hf f m⟩
theorem kind_heap {n : Nat} {ks : PV → Prop} {e lt : PV → PV → Bool} {T : Value} (X : KeyTy C n h₀ ks e lt T) (kp : Keeps h₀ h) {ps : List PV} {keys : Array Value} (hk : keys.toList.map pv = ps) (h0 : 0 < ps.length) (hp : ∀ p ∈ ps, ∃ a k i e, p = .ref a ∧ ks k ∧ Own h a (tri k i e))
    {R : SortKind → Heap → Prop} (k : R (tuples' true) h) : Wp C A (keyKind' keys) R h := fun t => by
  obtain ⟨fs, kt, hl, hf⟩ := katTups (h := h) (ks := ks) keys.toList fun v m => by
    obtain ⟨a, k, i, e, ev, r⟩ := hp (pv v) (by rw [← hk]; exact List.mem_map_of_mem m)
    exact ⟨a, k, i, e, pv_ref ev, r⟩
  have hlen : keys.toList.length = ps.length := by rw [← hk, List.length_map]
  have := kat_kind (M := C.M) (A := A) (E := fun _ _ => False) (s := C.st h t) (Q := fun a s' => ∃ h' t', s' = C.st h' t' ∧ R a h') kt (by rw [hl, hlen]; exact h0) (T := T) (fun v hv => X.ty h kp _ v (hf v hv) rfl) X.self ⟨_, _, rfl, by rw [X.ntup]; exact k⟩
  simpa using this
theorem key_wo {n : Nat} {base : Heap} {ks : PV → Prop} {e lt : PV → PV → Bool} {T : Value} (X : KeyTy C n base ks e lt T) {Kf : Nat → PV} (hK : ∀ i, ks (Kf i)) (b : Bool) : WO fun i j => ltb b lt (Kf i) (Kf j) := by
  cases b with
  | false => exact ⟨fun i j h => X.asym _ _ (hK i) (hK j) h, fun i j k h1 h2 => X.trans _ _ _ (hK i) (hK j) (hK k) h1 h2⟩
  | true => exact ⟨fun i j h => X.asym _ _ (hK j) (hK i) h, fun i j k h1 h2 => X.trans _ _ _ (hK k) (hK j) (hK i) h2 h1⟩
end
noncomputable def elAt (es : List Int) (i : Nat) : Int := es.getD (min i (es.length - 1)) 0
theorem elAt_lt {es : List Int} {i : Nat} (h : i < es.length) : es[i]? = some (elAt es i) := by
  unfold elAt
  rw [Nat.min_eq_left (Nat.le_sub_one_of_lt h), List.getD_eq_getElem?_getD, List.getElem?_eq_getElem h]; rfl
theorem elAt_mem {es : List Int} (h : 0 < es.length) (i : Nat) : elAt es i ∈ es := by
  unfold elAt
  have : min i (es.length - 1) < es.length := Nat.lt_of_le_of_lt (Nat.min_le_right ..) (Nat.sub_lt h Nat.one_pos)
  rw [List.getD_eq_getElem?_getD, List.getElem?_eq_getElem this]
  exact List.getElem_mem this
theorem elAt_pv {es : List Int} {i : Nat} (h : i < es.length) : (es.map PV.int).getD i .none = .int (elAt es i) := by
  rw [List.getD_eq_getElem?_getD, List.getElem?_map, elAt_lt h]; rfl
theorem HI.out {b : Bool} {n : Nat} {order : Int} {trs : List Tr} {ps : List PV} {lt : PV → PV → Bool} {kv : PV → PV} {es : List Int} (W : WO fun i j => ltb b lt (kv (.int (elAt es i))) (kv (.int (elAt es j))))
    (H : HI b (fun i j => ltb b lt (kv (.int (elAt es i))) (kv (.int (elAt es j)))) n es.length order trs ps) (hn : 0 < n) (h0 : 0 < es.length) {kl : Nat → Nat → Bool} (hkl : kl = fun i j => ltb b lt (kv (.int (elAt es i))) (kv (.int (elAt es j)))) :
    (∀ p ∈ sortOut b (if b then fun p q => RR kl trs q p else RR kl trs) id ps, p ∈ ps) ∧
    (sortOut b (if b then fun p q => RR kl trs q p else RR kl trs) id ps).map (fun p => PV.int (elAt es (ixOf trs p))) = (sortOut b lt kv (es.map PV.int)).take n := by
  subst hkl
  obtain ⟨P, p1, p2, p3⟩ := sortOut_idx (b := b) (lt := lt) (kv := kv) (ps := es.map PV.int) W (by simpa using h0) (fun i j hi hj => by
    rw [List.length_map] at hi hj
    rw [elAt_pv hi, elAt_pv hj])
  rw [List.length_map] at p1
  obtain ⟨d1, d2⟩ := H.done W hn p1 p2
  refine ⟨d1, ?_⟩
  have e1 : ∀ l : List PV, l.map (fun p => PV.int (elAt es (ixOf trs p))) = (l.map (ixOf trs)).map fun i => PV.int (elAt es i) := fun l => by rw [List.map_map]; rfl
  rw [e1, d2, p3, ← List.map_take]
  exact List.map_congr_left fun i m => (elAt_pv (List.mem_range.mp (p1.mem_iff.mp (List.mem_of_mem_take m)))).symm

theorem evalArgs_kw0 {M : Model} {A : Around} {E : Value → Shared → Prop} {s : Shared} {f : Value} {keywords : List (Option Str × Sem Value)} {Q : Args → Shared → Prop}
    (hall : keywords.all (·.1.isSome) = true) (h : wpAny M A (evalAll (keywords.map (·.2))) (fun kvs s₂ => Q ⟨[], (keywords.filterMap (·.1)).zip kvs⟩ s₂) E s) : wpAny M A (evalArgs f true [] keywords) Q E s := by
  unfold evalArgs
  show wpAny M A (spliced [] >>= _) Q E s
  refine wpAny_bind (Calls.spliced_nil (wpAny_bind (wpAny_pure ?_)))
  refine wpAny_holding ?_
  rw [if_pos hall]
  exact wpAny_bind (wpAny_mono h (fun kvs s₂ h₂ => wpAny_bind (wpAny_pure (wpAny_pure h₂))) fun _ _ x => x)
section
variable {C : Cx} {A : Around} {h h₀ h' : Heap} {env : Env} {l l' : List (Str × Option PV)} {cs cs' ds : List (Addr × AO)} {K : Frag}
theorem w_mcallKw {o : Expr} {name : Str} {apos pos : Pos} {es : List Expr} {kws : List Keyword} {Q : Value → Heap → Prop}
    (x : Wp C A (eval o env) (fun ov h1 => ∃ f first, Mt C A h1 ov name f first ∧ Wp C A (callWith pos f first (backTo pos (starEach es env)) (backToKw pos (keywordEach kws env))) Q h1) h)
    (hfew : ((backTo pos (starEach es env)).all (fun x => !x.1) && (backToKw pos (keywordEach kws env)).all (fun x => x.1.isSome) && decide (es.length + kws.length + (if (backToKw pos (keywordEach kws env)).isEmpty then 0 else 1) < 30)) = true := by rfl)
    (hbase : attributeBase o name env (eval o env) = eval o env := by rfl) (hline : (apos.endLine == pos.line) = true := by rfl) :
    Wp C A (eval (.Call (.Attribute o name apos) es kws pos) env) Q h := fun t => by
  rw [arm_eval_Call, hbase]
  refine wpAny_bind (x.seq t fun u h1 t1 q1 => ?_)
  obtain ⟨f, first, gm, y⟩ := q1
  refine wpAny_bind (wpAny_standAt ?_)
  have hform : methodCallForm (es.length + kws.length) (backTo pos (starEach es env)) (backToKw pos (keywordEach kws env)) = true := hfew
  have hpos : methodCallPos true o env apos pos = Pure.pure pos := by unfold methodCallPos; simp [hline]
  unfold methodCall
  rw [hform]
  refine wpAny_bind (wpAny_holding ((gm.out _ (fun r h' => r = (f, first) ∧ h1 = h') ⟨rfl, rfl⟩).seq t1 fun r _ t2 q2 => ?_))
  obtain ⟨rfl, rfl⟩ := q2
  exact wpAny_bind (wpAny_of_eq hpos (y t2))
theorem w_callWithKw0 {pos : Pos} {id : String} {first : List Value} {kws : List Keyword} {Q : Value → Heap → Prop}
    (y : Wp C A (evalAll ((backToKw pos (keywordEach kws env)).map (·.2))) (fun ks h2 => Wp C A (call (.builtin id) first (((backToKw pos (keywordEach kws env)).filterMap (·.1)).zip ks)) Q h2) h)
    (hall : (backToKw pos (keywordEach kws env)).all (·.1.isSome) = true := by rfl) (hkw : (backToKw pos (keywordEach kws env)).any (·.1.isNone) = false := by rfl) :
    Wp C A (callWith pos (.builtin id) first (backTo pos (starEach [] env)) (backToKw pos (keywordEach kws env))) Q h := fun t => by
  refine callWith_builtin_kwB (args := []) rfl hkw (evalArgs_kw0 hall (y.seq t fun ks h2 t2 q => ?_))
  have := q t2
  simpa using this
end

theorem compTurn2_0 (elt t0 i0 : Expr) (ifs0 : List Expr) (t1 i1 : Expr) (ifs1 : List Expr) (scope : Scope) (pos : Pos) (it acc : Value) (env : Env) :
    compTurn (.ListComp elt [⟨t0, i0, ifs0, 0⟩, ⟨t1, i1, ifs1, 0⟩] scope pos) 0 it acc env = (do
      standAt i0.pos
      match ← pyNext it with
      | none => pure (.done .next)
      | some v =>
        letOwnedTupleGo t0 it v
        assign t0 env v
        let mut ok := true
        for c in ifs0 do
          if ok then ok ← isTrue c env (eval c env)
        if ok then
          let x ← eval i1 env
          standAt i1.pos
          let x ← foldedSetIterable i1 env x
          let _ ← runOwn (.compStart (.ListComp elt [⟨t0, i0, ifs0, 0⟩, ⟨t1, i1, ifs1, 0⟩] scope pos) 1 (← holding [x] (pyIter x)) acc env) env
        again (.compLoop (.ListComp elt [⟨t0, i0, ifs0, 0⟩, ⟨t1, i1, ifs1, 0⟩] scope pos) 0 it acc env)) := by rfl
theorem compTurn2_1 (elt t0 i0 : Expr) (ifs0 : List Expr) (t1 i1 : Expr) (ifs1 : List Expr) (scope : Scope) (pos : Pos) (it acc : Value) (env : Env) :
    compTurn (.ListComp elt [⟨t0, i0, ifs0, 0⟩, ⟨t1, i1, ifs1, 0⟩] scope pos) 1 it acc env = (do
      standAt i1.pos
      match ← pyNext it with
      | none => pure (.done .next)
      | some v =>
        letOwnedTupleGo t1 it v
        assign t1 env v
        let mut ok := true
        for c in ifs1 do
          if ok then ok ← isTrue c env (eval c env)
        if ok then
          (do let _ ← call (.builtin "list.append") [acc, ← eval elt env])
        again (.compLoop (.ListComp elt [⟨t0, i0, ifs0, 0⟩, ⟨t1, i1, ifs1, 0⟩] scope pos) 1 it acc env)) := by rfl
section
variable {C : Cx} {A : Around} {h h₀ h' : Heap} {env : Env} {l l' : List (Str × Option PV)} {cs cs' ds : List (Addr × AO)} {K : Frag}
theorem w_or {a b : Expr} {pos : Pos} {Q : Value → Heap → Prop} (x : Wp C A (eval a env) (fun v h1 => Wp C A (truthy v) (fun t h2 => if t = true then Q v h2 else Wp C A (eval b env) Q h2) h1) h) :
    Wp C A (eval (.BoolOp .Or [a, b] pos) env) Q h := by
  rw [arm_eval_BoolOp]
  show Wp C A (do
    let v ← eval a env
    standAt pos
    let t ← holding [v] (truthy v)
    match BoolOp.Or, t with
    | .And, false | .Or, true => pure v
    | _, _ => eval b env) Q h
  refine Wp.bind (x.mono fun v h1 q1 => Wp.bind (Wp.standAt (Wp.bind (Wp.holding (q1.mono fun t h2 q2 => ?_)))))
  cases t with
  | true => rw [if_pos rfl] at q2; exact Wp.pure q2
  | false => rw [if_neg Bool.false_ne_true] at q2; exact q2
theorem cp_comp0 {elt t0 i0 : Expr} {ifs0 : List Expr} {t1 i1 : Expr} {ifs1 : List Expr} {scope : Scope} {pos : Pos} {it acc : Value} {Q : Flow → Heap → Prop}
    (x : Wp C A (pyNext it) (fun r h1 => match r with
      | none => Q .next h1
      | some v => Wp C A (letOwnedTupleGo t0 it v) (fun _ h2 => Wp C A (assign t0 env v) (fun _ h3 => Wp C A (compTs ifs0 env) (fun ok h4 => ok = true ∧
          Wp C A (eval i1 env) (fun x h5 => Wp C A (pyIter x) (fun it2 h6 => Cp C A (.compStart (.ListComp elt [⟨t0, i0, ifs0, 0⟩, ⟨t1, i1, ifs1, 0⟩] scope pos) 1 it2 acc env) (fun _ h7 => Cp C A (.compLoop (.ListComp elt [⟨t0, i0, ifs0, 0⟩, ⟨t1, i1, ifs1, 0⟩] scope pos) 0 it acc env) Q h7) h6) h5) h4) h3) h2) h1) h)
    (hs : ∀ x, foldedSetIterable i1 env x = Pure.pure x := by intro _; rfl) :
    Cp C A (.compLoop (.ListComp elt [⟨t0, i0, ifs0, 0⟩, ⟨t1, i1, ifs1, 0⟩] scope pos) 0 it acc env) Q h := fun t => by
  refine codeAny_of_tree ?_
  rw [Around.under_of_weight rfl]
  show wpAny _ A ((compTurn (.ListComp elt [⟨t0, i0, ifs0, 0⟩, ⟨t1, i1, ifs1, 0⟩] scope pos) 0 it acc env).onRaise (fun x => do noteFrame x env; theTreesLotGoes x)) _ _ _
  refine wpAny_noted ?_
  rw [compTurn2_0]
  refine wpAny_bind (wpAny_standAt (wpAny_bind (x.seq _ fun r h1 t1 q1 => ?_)))
  cases r with
  | none => exact wpAny_pure ⟨_, _, _, rfl, rfl, q1⟩
  | some v =>
    refine wpAny_bind (Wp.seq q1 _ fun _ h2 t2 q2 => wpAny_bind (q2.seq _ fun _ h3 t3 q3 => wpAny_bind (q3.seq _ fun ok h4 t4 q4 => ?_)))
    obtain ⟨rfl, q4⟩ := q4
    simp only [if_true]
    refine wpAny_bind (q4.seq _ fun x h5 t5 q5 => wpAny_bind (wpAny_standAt ?_))
    rw [hs]
    refine wpAny_bind (wpAny_pure (wpAny_bind (wpAny_holding (q5.seq _ fun it2 h6 t6 q6 => wpAny_bind (wpAny_runOwn ?_)))))
    exact q6.code t6 fun f h7 t7 q7 => wpAny_pure ⟨rfl, q7 t7⟩
theorem cp_comp1 {elt t0 i0 : Expr} {ifs0 : List Expr} {t1 i1 : Expr} {ifs1 : List Expr} {scope : Scope} {pos : Pos} {it acc : Value} {Q : Flow → Heap → Prop}
    (x : Wp C A (pyNext it) (fun r h1 => match r with
      | none => Q .next h1
      | some v => Wp C A (letOwnedTupleGo t1 it v) (fun _ h2 => Wp C A (assign t1 env v) (fun _ h3 => Wp C A (compTs ifs1 env) (fun ok h4 =>
          if ok = true then Wp C A (eval elt env) (fun x h5 => Wp C A (call (.builtin "list.append") [acc, x]) (fun _ h6 => Cp C A (.compLoop (.ListComp elt [⟨t0, i0, ifs0, 0⟩, ⟨t1, i1, ifs1, 0⟩] scope pos) 1 it acc env) Q h6) h5) h4
          else Cp C A (.compLoop (.ListComp elt [⟨t0, i0, ifs0, 0⟩, ⟨t1, i1, ifs1, 0⟩] scope pos) 1 it acc env) Q h4) h3) h2) h1) h) :
    Cp C A (.compLoop (.ListComp elt [⟨t0, i0, ifs0, 0⟩, ⟨t1, i1, ifs1, 0⟩] scope pos) 1 it acc env) Q h := fun t => by
  refine codeAny_of_tree ?_
  rw [Around.under_of_weight rfl]
  show wpAny _ A ((compTurn (.ListComp elt [⟨t0, i0, ifs0, 0⟩, ⟨t1, i1, ifs1, 0⟩] scope pos) 1 it acc env).onRaise (fun x => do noteFrame x env; theTreesLotGoes x)) _ _ _
  refine wpAny_noted ?_
  rw [compTurn2_1]
  refine wpAny_bind (wpAny_standAt (wpAny_bind (x.seq _ fun r h1 t1 q1 => ?_)))
  cases r with
  | none => exact wpAny_pure ⟨_, _, _, rfl, rfl, q1⟩
  | some v =>
    refine wpAny_bind (Wp.seq q1 _ fun _ h2 t2 q2 => wpAny_bind (q2.seq _ fun _ h3 t3 q3 => wpAny_bind (q3.seq _ fun ok h4 t4 q4 => ?_)))
    cases ok with
    | false =>
      simp only [Bool.false_eq_true, if_false] at q4 ⊢
      exact wpAny_pure ⟨rfl, q4 t4⟩
    | true =>
      simp only [if_true] at q4 ⊢
      exact wpAny_bind (wpAny_bind (q4.seq _ fun x h5 t5 q5 => wpAny_bind (q5.seq _ fun _ h6 t6 q6 => wpAny_pure (wpAny_pure ⟨rfl, q6 t6⟩))))
theorem cp_compStart1 {elt t0 i0 : Expr} {ifs0 : List Expr} {t1 i1 : Expr} {ifs1 : List Expr} {scope : Scope} {pos : Pos} {it acc : Value} {Q : Flow → Heap → Prop}
    (x : Cp C A (.compLoop (.ListComp elt [⟨t0, i0, ifs0, 0⟩, ⟨t1, i1, ifs1, 0⟩] scope pos) 1 it acc env) Q h) (y : Wp C A (pyIter it) (fun it' h' => it' = it ∧ h' = h) h) :
    Cp C A (.compStart (.ListComp elt [⟨t0, i0, ifs0, 0⟩, ⟨t1, i1, ifs1, 0⟩] scope pos) 1 it acc env) Q h := fun t => by
  refine codeAny_of_tree ?_
  show wpAny _ _ ((compStart (.ListComp elt [⟨t0, i0, ifs0, 0⟩, ⟨t1, i1, ifs1, 0⟩] scope pos) 1 it acc env).onRaise (fun x => do noteFrame x env; standAt theWindowsPlace)) _ _ _
  refine wpAny_notedAt ?_
  unfold compStart
  show wpAny _ _ (ask >>= _) _ _ _
  refine wpAny_bind (wpAny_askSetting (wpAny_ite ?_))
  split
  · first
      | exact wpAny_bind (wpAny_pure (wpAny_pure (And.intro rfl (x t))))
      | exact wpAny_pure (And.intro rfl (x t))
  · refine wpAny_bind (wpAny_rule ?_)
    show wpAny _ _ (standAt i1.pos >>= _) _ _ _
    exact wpAny_bind (wpAny_standAt (wpAny_bind (y.seq t fun it' h' t' q => by
      obtain ⟨rfl, rfl⟩ := q
      exact wpAny_pure (And.intro rfl (x t')))))
theorem cp_comp1N {elt t0 i0 : Expr} {ifs0 : List Expr} {t1 i1 : Expr} {ifs1 : List Expr} {scope : Scope} {pos : Pos} {it acc : Value} {X : Heap → Prop} (n : Nat) (I : Nat → Heap → Prop)
    (turn : ∀ i h, i < n → I i h → ∀ J : Heap → Prop, (∀ {h'}, I (i + 1) h' → J h') → Wp C A (pyNext it) (fun r h1 => ∃ v, r = some v ∧
      Wp C A (letOwnedTupleGo t1 it v) (fun _ h2 => Wp C A (assign t1 env v) (fun _ h3 => Wp C A (compTs ifs1 env) (fun ok h4 =>
          if ok = true then Wp C A (eval elt env) (fun x h5 => Wp C A (call (.builtin "list.append") [acc, x]) (fun _ h6 => J h6) h5) h4
          else J h4) h3) h2) h1) h)
    (fin : ∀ h, I n h → Wp C A (pyNext it) (fun r h1 => r = none ∧ X h1) h) :
    ∀ i h, i ≤ n → I i h → Cp C A (.compLoop (.ListComp elt [⟨t0, i0, ifs0, 0⟩, ⟨t1, i1, ifs1, 0⟩] scope pos) 1 it acc env) (fun f h' => f = .next ∧ X h') h := by
  have go : ∀ m i h, i + m = n → I i h → Cp C A (.compLoop (.ListComp elt [⟨t0, i0, ifs0, 0⟩, ⟨t1, i1, ifs1, 0⟩] scope pos) 1 it acc env) (fun f h' => f = .next ∧ X h') h := by
    intro m
    induction m with
    | zero =>
      intro i h e q
      obtain rfl : i = n := by lia
      refine cp_comp1 ((fin h q).mono fun r h1 q1 => ?_)
      obtain ⟨rfl, q1⟩ := q1
      exact ⟨rfl, q1⟩
    | succ m ih =>
      intro i h e q
      refine cp_comp1 ((turn i h (by lia) q _ (fun {_} z => z)).mono fun r h1 q1 => ?_)
      obtain ⟨v, rfl, q1⟩ := q1
      refine q1.mono fun _ h2 q2 => q2.mono fun _ h3 q3 => q3.mono fun ok h4 q4 => ?_
      cases ok with
      | false =>
        simp only [Bool.false_eq_true, if_false] at q4 ⊢
        exact ih (i + 1) h4 (by lia) q4
      | true =>
        simp only [if_true] at q4 ⊢
        exact q4.mono fun x h5 q5 => q5.mono fun _ h6 q6 => ih (i + 1) h6 (by lia) q6
  exact fun i h hi q => go (n - i) i h (by lia) q
theorem cp_comp0N {elt t0 i0 : Expr} {ifs0 : List Expr} {t1 i1 : Expr} {ifs1 : List Expr} {scope : Scope} {pos : Pos} {it acc : Value} {X : Heap → Prop} (n : Nat) (I : Nat → Heap → Prop)
    (turn : ∀ i h, i < n → I i h → ∀ J : Heap → Prop, (∀ {h'}, I (i + 1) h' → J h') → Wp C A (pyNext it) (fun r h1 => ∃ v, r = some v ∧
      Wp C A (letOwnedTupleGo t0 it v) (fun _ h2 => Wp C A (assign t0 env v) (fun _ h3 => Wp C A (compTs ifs0 env) (fun ok h4 => ok = true ∧
          Wp C A (eval i1 env) (fun x h5 => Wp C A (pyIter x) (fun it2 h6 => Cp C A (.compStart (.ListComp elt [⟨t0, i0, ifs0, 0⟩, ⟨t1, i1, ifs1, 0⟩] scope pos) 1 it2 acc env) (fun _ h7 => J h7) h6) h5) h4) h3) h2) h1) h)
    (fin : ∀ h, I n h → Wp C A (pyNext it) (fun r h1 => r = none ∧ X h1) h) (hs : ∀ x, foldedSetIterable i1 env x = Pure.pure x := by intro _; rfl) :
    ∀ i h, i ≤ n → I i h → Cp C A (.compLoop (.ListComp elt [⟨t0, i0, ifs0, 0⟩, ⟨t1, i1, ifs1, 0⟩] scope pos) 0 it acc env) (fun f h' => f = .next ∧ X h') h := by
  have go : ∀ m i h, i + m = n → I i h → Cp C A (.compLoop (.ListComp elt [⟨t0, i0, ifs0, 0⟩, ⟨t1, i1, ifs1, 0⟩] scope pos) 0 it acc env) (fun f h' => f = .next ∧ X h') h := by
    intro m
    induction m with
    | zero =>
      intro i h e q
      obtain rfl : i = n := by lia
      refine cp_comp0 ((fin h q).mono fun r h1 q1 => ?_) hs
      obtain ⟨rfl, q1⟩ := q1
      exact ⟨rfl, q1⟩
    | succ m ih =>
      intro i h e q
      refine cp_comp0 ((turn i h (by lia) q _ (fun {_} z => z)).mono fun r h1 q1 => ?_) hs
      obtain ⟨v, rfl, q1⟩ := q1
      exact q1.mono fun _ h2 q2 => q2.mono fun _ h3 q3 => q3.mono fun ok h4 q4 => ⟨q4.1, q4.2.mono fun x h5 q5 => q5.mono fun it2 h6 q6 => q6.mono fun f h7 q7 => ih (i + 1) h7 (by lia) q7⟩
  exact fun i h hi q => go (n - i) i h (by lia) q
end

noncomputable def ltI : PV → PV → Bool
  | .int i, .int j => decide (i < j)
  | _, _ => false
noncomputable def eqI : PV → PV → Bool
  | .int i, .int j => decide (i = j)
  | _, _ => false
section
variable {C : Cx} {A : Around} {h h₀ h' : Heap} {env : Env} {l l' : List (Str × Option PV)} {cs cs' ds : List (Addr × AO)} {K : Frag}
theorem w_listRange {r : Addr} {a b c : Int} {n : Nat} {Q : Value → Heap → Prop} (hh : A.handled = none) (Z : St env h₀ l cs h) (o : Own h r (rngO a b c)) (hs : Builtin.Range.small a b c = true) (hn : Builtin.Range.rangeSize a b c = n) (hz : n ≤ 1000)
    (k : ∀ x h', St env h₀ l ((x, .list ((List.range n).map fun i => PV.int (a + (i : Nat) * c))) :: cs) h' → Q (.ref x) h') : Wp C A (call (.type "list") [.ref r]) Q h := fun t => by
  obtain ⟨ob, eo, t1, u, v, rfl⟩ := o
  refine call_list_range (s := C.st h t) hh eo hs hn (by exact Nat.le_trans (by assumption) (by decide)) fun h' tk acc' c' hk hS' hacc => ⟨h', _, rfl, k h.objs.size h' ?_⟩
  have fr := Z.fresh_ge (Nat.le_refl h.objs.size)
  refine (Z.keeps hk).more (x := .list ((List.range n).map fun i => PV.int (a + (i : Nat) * c))) ⟨_, hS', acc', c', rfl, ?_⟩ fr.1 fr.2
  refine List.ext_getElem (by simp [hacc.1]) fun i h1 h2 => ?_
  have hi : i < acc'.size := by simpa using h1
  obtain ⟨tk', e⟩ := hacc.2 i acc'[i] (Array.getElem?_eq_getElem hi)
  simp [e, show ∀ i t, pv (.int i t) = .int i from fun _ _ => rfl]
theorem w_truthyList {a : Addr} {ps : List PV} {Q : Bool → Heap → Prop} (o : Own h a (.list ps)) (hz : ps.length < 2 ^ 62) (k : Q (!ps.isEmpty) h) : Wp C A (truthy (.ref a)) Q h := fun t => by
  obtain ⟨vs, il, ev⟩ := own_isList o
  have hsz : vs.size = ps.length := by rw [← ev, List.length_map]; simp
  have he : vs.isEmpty = ps.isEmpty := by
    rw [← ev]
    cases hv : vs.toList with
    | nil =>
      have : vs.size = 0 := by rw [← Array.length_toList, hv]; rfl
      simp [Array.isEmpty, this]
    | cons x r =>
      have : vs.size ≠ 0 := by rw [← Array.length_toList, hv]; simp
      simp [Array.isEmpty, this]
  exact wpAny_truthy_list (s := C.st h t) il (by rw [hsz]; lia) ⟨_, _, rfl, by rw [he]; exact k⟩
theorem keyTy_int {n : Nat} : KeyTy C n h₀ (fun p => ∃ i, p = .int i) eqI ltI (.type "int") where
  cEq := by
    rintro A h _ _ _ _ ⟨i, rfl⟩ ⟨j, rfl⟩
    exact eqb_int
  cLt := by
    rintro A h _ _ _ _ ⟨i, rfl⟩ ⟨j, rfl⟩
    exact c_lt
  cGt := by
    rintro A h _ _ _ _ ⟨i, rfl⟩ ⟨j, rfl⟩
    exact c_gt
  one := by
    rintro A h _ _ _ _ ⟨i, rfl⟩ ⟨j, rfl⟩
    exact ltk_int
  ty := by
    rintro h _ _ u ⟨i, rfl⟩ hu
    obtain ⟨t, rfl⟩ := pv_int hu
    exact Looks.of_pure rfl
  ntup := rfl
  self := rfl
  lin := by
    rintro _ _ ⟨i, rfl⟩ ⟨j, rfl⟩
    simp only [eqI, ltI]
    by_cases e : i = j
    · subst e; simp
    · by_cases e2 : i < j
      · simp [e, e2]
      · have : j < i := by lia
        simp [e, this]
  asym := by
    rintro _ _ ⟨i, rfl⟩ ⟨j, rfl⟩
    simp only [ltI, decide_eq_true_eq, decide_eq_false_iff_not]
    lia
  trans := by
    rintro _ _ _ ⟨i, rfl⟩ ⟨j, rfl⟩ ⟨k, rfl⟩
    simp only [ltI, decide_eq_false_iff_not]
    lia
end

section
variable {C : Cx} {A : Around} {h h₀ h' : Heap} {env : Env} {l l' : List (Str × Option PV)} {cs cs' ds : List (Addr × AO)} {K : Frag}
end

noncomputable def tabL : List (Nat × Nat × Addr) → List Value
  | [] => []
  | e :: r => rawInt (e.1 : Int) :: rawInt (e.2.1 : Int) :: .ref e.2.2 :: tabL r
noncomputable def tabA (es : List (Nat × Nat × Addr)) : AO := .raw (tabObj (tabL es).toArray)
theorem tabL_c {e : Nat × Nat × Addr} {r : List (Nat × Nat × Addr)} : tabL (e :: r) = rawInt (e.1 : Int) :: rawInt (e.2.1 : Int) :: .ref e.2.2 :: tabL r := rfl
theorem tabL_app (e : Nat × Nat × Addr) : ∀ es, tabL (es ++ [e]) = tabL es ++ [rawInt (e.1 : Int), rawInt (e.2.1 : Int), .ref e.2.2]
  | [] => rfl
  | a :: r => by rw [List.cons_append, tabL_c, tabL_app e r]; rfl
theorem tab_among (pos : Pos) : ∀ es, codeAmong pos (tabL es) = (es.find? fun e => e.1 == pos.line && e.2.1 == pos.col).map fun e => .ref e.2.2
  | [] => rfl
  | e :: r => by
    have h1 : (((e.1 : Nat) : Int) == ((pos.line : Nat) : Int)) = (e.1 == pos.line) := by
      rw [Bool.eq_iff_iff]; simp; lia
    have h2 : (((e.2.1 : Nat) : Int) == ((pos.col : Nat) : Int)) = (e.2.1 == pos.col) := by
      rw [Bool.eq_iff_iff]; simp; lia
    show (if (((e.1 : Nat) : Int) == ((pos.line : Nat) : Int) && ((e.2.1 : Nat) : Int) == ((pos.col : Nat) : Int)) = true then some (.ref e.2.2) else codeAmong pos (tabL r)) = _
    rw [h1, h2, tab_among pos r, List.find?_cons]
    cases (e.1 == pos.line && e.2.1 == pos.col) <;> rfl
theorem tab_triples : ∀ es, TriplesOk (tabL es)
  | [] => trivial
  | e :: r => tab_triples r
noncomputable def TabOk (q : Str) (es : List (Nat × Nat × Addr)) (X : List (Addr × AO)) : Prop := ∀ e ∈ es, (e.2.2, codO q) ∈ X
section
variable {C : Cx} {A : Around} {h h₀ h' : Heap} {env : Env} {l l' : List (Str × Option PV)} {cs cs' ds X : List (Addr × AO)} {K : Frag}
theorem own_hide {h : Heap} {a b : Addr} {x : AO} (o : Own h b x) (ne : b ≠ a) : Own (h.hide a) b x := by
  obtain ⟨ob, e, d⟩ := o
  exact ⟨ob, (Heap.hide_ne h ne).trans e, d⟩
theorem St.keepBase (Z : St env h₀ l cs h) : Keeps h₀ (h.hide env.locals) := fun b o e => (Heap.hide_ne h (fun z => by rw [z, Z.low] at e; cases e)).trans (Z.keep b o e)
theorem St.ownBase (Z : St env h₀ l cs h) {a : Addr} {x : AO} (m : (a, x) ∈ cs) : Own (h.hide env.locals) a x := own_hide (Z.own _ m) (Z.neL m)
theorem w_lambdaAny {params : Arguments} {body : Expr} {scope : Scope} {pos : Pos} {clos : List (Str × Addr)} {P c : Addr} {es : List (Nat × Nat × Addr)} {Q : Value → Heap → Prop} (Z : St env h₀ l ((P, tabA es) :: cs) h) (T : TabOk (env.qual ++ "<lambda>") es X) (M : Lm h₀ c P)
    (hc : env.code = .ref c) (hg : env.globals = mainGlobals) (hdef : defaultsOf params env = ([], [])) (hcl : closureFor scope env = Pure.pure clos)
    (k : ∀ f c' pm ctv h' es' ds, TabOk (env.qual ++ "<lambda>") es' (ds ++ X) → (c', codO (env.qual ++ "<lambda>")) ∈ ds ++ X →
      St env h₀ l ((f, .raw (kla_obj "<lambda>" (env.qual ++ "<lambda>") params body scope clos pm c' ctv)) :: (P, tabA es') :: (ds ++ cs)) h' → Q (.ref f) h') :
    Wp C A (eval (.Lambda params body scope pos) env) Q h := by
  have tr : TriplesOk (tabL es).toArray.toList := tab_triples es
  cases hf : es.find? fun e => e.1 == pos.line && e.2.1 == pos.col with
  | some e =>
    have ha : codeAmong pos (tabL es).toArray.toList = some (.ref e.2.2) := (tab_among pos es).trans (by rw [hf]; rfl)
    refine w_lambdaHit Z M .here hc hg hdef hcl tr ha fun f pm ctv h' Z' => ?_
    exact k f e.2.2 pm ctv h' es [] T (T e (List.mem_of_find?_eq_some hf)) Z'
  | none =>
    have ha : codeAmong pos (tabL es).toArray.toList = none := (tab_among pos es).trans (by rw [hf]; rfl)
    refine w_lambda (cs' := fun x => (P, x) :: cs) Z M .here (fun _ => .here) hc hg hdef hcl tr ha fun f c' pm ctv h' Z' => ?_
    have e : (AO.raw (tabObj ((tabL es).toArray ++ #[rawInt pos.line, rawInt pos.col, .ref c']))) = tabA (es ++ [(pos.line, pos.col, c')]) := by
      unfold tabA
      rw [tabL_app]
      simp
    rw [e] at Z'
    refine k f c' pm ctv h' (es ++ [(pos.line, pos.col, c')]) [(c', codO (env.qual ++ "<lambda>"))] (fun x hx => ?_) (.head _) (Z'.perm (.cons _ (.swap ..)))
    rcases List.mem_append.mp hx with hx | hx
    · exact .tail _ (T x hx)
    · rw [List.mem_singleton.mp hx]; exact .head _
theorem perm_in {α : Type} {c : α} {ds G X : List α} : (c :: (ds ++ (G ++ X))).Perm (c :: (G ++ (ds ++ X))) := .cons _ (by
  rw [← List.append_assoc, ← List.append_assoc]
  exact List.perm_append_comm.append_right _)
theorem perm_inG {α : Type} {ds G X : List α} : (ds ++ (G ++ X)).Perm (G ++ (ds ++ X)) := by
  rw [← List.append_assoc, ← List.append_assoc]
  exact List.perm_append_comm.append_right _
theorem perm_in1 {α : Type} {c r : α} {ds G X : List α} : (c :: r :: (ds ++ (G ++ X))).Perm (c :: ((r :: G) ++ (ds ++ X))) := .cons _ (.cons _ perm_inG)
end

section
variable {C : Cx} {A : Around} {h h₀ h' : Heap} {env : Env} {l l' : List (Str × Option PV)} {cs cs' ds X : List (Addr × AO)} {K : Frag}
theorem fnAt_lam {f : Addr} {nm qu : Str} {pa : Arguments} {bo : Expr} {sc : Scope} {cl : List (Str × Addr)} {pm ct : Value} {c' : Addr} (o : Own h f (.raw (kla_obj nm qu pa bo sc cl pm c' ct))) : PySem.W.FnAt f h := by
  obtain ⟨o, eo, ed⟩ := o
  have ed : o = _ := ed
  subst ed
  exact ⟨_, _, _, _, eo⟩
theorem x_topCheck {x cN plN rN y plc : Str} {p0 p1 p2 p3 p4 p5 p6 p7 p8 p9 p10 p11 q1 q2 q3 q4 kp : Pos} {u0 : Nat} {prm : Arguments} {sc : Scope} {clos : List (Str × Addr)} {P c f pl rr : Addr} {es : List (Nat × Nat × Addr)} {cnt m : Nat} {PL OUT : List PV} {xs : List Int} {kv : PV → PV} {rest : List Stmt} {Q : Flow → Heap → Prop}
    (hu : A.units < cLine) (Z : St env h₀ l ((P, tabA es) :: cs) h) (T : TabOk (env.qual ++ "<lambda>") es X) (hX : ∀ p ∈ X, p ∈ cs) (M : Lm h₀ c P)
    (hc : env.code = .ref c) (hg : env.globals = mainGlobals) (hdef : defaultsOf prm env = ([], [])) (hcl : closureFor sc env = Pure.pure clos)
    (ac : At l cN (.int cnt)) (ap : At l plN (.ref pl)) (ar : At l rN (.ref rr)) (dc : (cN == ("__debug__" : Str)) = false) (dp : (plN == ("__debug__" : Str)) = false) (dr : (rN == ("__debug__" : Str)) = false)
    (opl : (pl, .list PL) ∈ cs) (orr : (rr, .list (xs.map PV.int)) ∈ cs) (hout : OUT = xs.map PV.int) (hxl : xs.length ≤ 1000)
    (hgl : ∀ h', Keeps h₀ h' → Gl C A env h' x (.ref f)) (hfn : ∀ h', Keeps h₀ h' → FnAt f h')
    (key : ∀ h8, Keeps h₀ h8 → ∀ lf c' pm ctv, Own h8 lf (.raw (kla_obj "<lambda>" (env.qual ++ "<lambda>") prm (.Subscript (.Name y q1) (.Name plc q2) q3) sc clos pm c' ctv)) → Own h8 c' (codO (env.qual ++ "<lambda>")) → (∀ p ∈ cs, Own h8 p.1 p.2) → KeyOk C m h8 (.ref lf) PL kv)
    (spec : ∀ {us : List Value} {kf : Addr} {h' : Heap} {Q : Value → Heap → Prop}, Keeps h₀ h' → us.map pv = [.int cnt, .ref pl] → Own h' pl (.list PL) → PySem.W.FnAt kf h' → KeyOk C m h' (.ref kf) PL kv → (∀ r h'', New h' h'' [(r, .list (OUT.take cnt))] → Q (.ref r) h'') →
      Cp C A (.call (.ref f) ⟨us, [("key", .ref kf)]⟩) (fun fl h' => ∃ v, fl = .ret v ∧ Q v h') h')
    (k : ∀ h' es' ds, TabOk (env.qual ++ "<lambda>") es' (ds ++ X) → St env h₀ l ((P, tabA es') :: (ds ++ cs)) h' → Wp C A (execs rest env) Q h') :
    Wp C A (execs (.If (.Compare (.Call (.Name x p0) [.Name cN p1, .Name plN p2] [⟨some (Str.ofString "key"), .Lambda prm (.Subscript (.Name y q1) (.Name plc q2) q3) sc q4, kp⟩] p3) [.NotEq] [.Subscript (.Name rN p4) (.Slice none (some (.Name cN p5)) none p6) p7] p8) [.Return (some (.Constant (.bool false) u0 p9)) p10] [] p11 :: rest) env) Q h := by
  subst hout
  refine x_ifW (w_testCmp ?_)
  refine w_call_kw (hgl _ Z.keep) (hfn _ Z.keep) rfl (w_args_cons (Pe.use (e_name Z ac dc) fun u1 hu1 => w_args_cons (Pe.use (e_name Z ap dp) fun u2 hu2 => w_args_nil (w_kw1 ?_))))
  refine w_lambdaAny Z T M hc hg hdef hcl fun lf c' pm ctv h₁ es' ds T' hm Z₁ => ⟨hfn _ Z₁.keep, ?_⟩
  have own : ∀ p ∈ cs, Own h₁ p.1 p.2 := fun p hp => Z₁.own _ (.tail _ (.tail _ (List.mem_append_right _ hp)))
  have oc : Own h₁ c' (codO (env.qual ++ "<lambda>")) := by
    rcases List.mem_append.mp hm with hm | hm
    · exact Z₁.own (c', _) (.tail _ (.tail _ (List.mem_append_left _ hm)))
    · exact own (c', _) (hX _ hm)
  refine spec (us := [u1, u2]) Z₁.keep (by rw [List.map_cons, List.map_cons, List.map_nil, hu1, hu2]) (own _ opl) (fnAt_lam (Z₁.get .here)) (key _ Z₁.keep lf c' pm ctv (Z₁.get .here) oc own) fun r h₂ N => ?_
  have Z₂ := Z₁.adopt N
  refine w_subscript (Pe.use (e_name Z₂ ar dr) fun v hv => ?_)
  obtain rfl := pv_ref hv
  have o₂ : Own h₂ rr (.list (xs.map PV.int)) := Z₂.own (rr, .list (xs.map PV.int)) (.tail _ (.tail _ (.tail _ (List.mem_append_right _ orr))))
  refine w_sliceTail (lo := none) (hi := some (cnt : Int)) (st := none) Z₂ o₂ trivial (show Pe _ _ _ _ _ _ from e_name Z₂ ac dc) trivial (by decide) (by first | exact szm (by exact Nat.le_trans (by assumption) (by decide)) | exact sz (by lia) | (simp [sizeLine]; lia)) fun sl h₃ Z₃ => ?_
  rw [pick_upto, ← List.map_take] at Z₃
  have o₃ : Own h₃ r (.list ((xs.take cnt).map PV.int)) := Z₃.own (r, .list ((xs.take cnt).map PV.int)) (.tail _ (.head _))
  refine c_ne_intsList hu o₃ (Z₃.get .here) _ _ rfl rfl _ ⟨_, rfl, ?_⟩
  rw [decide_eq_true rfl, if_neg (by simp)]
  refine x_done (k h₃ es' ds T' ?_)
  exact Z₃.sub (((List.Sublist.refl _).cons _).cons _ |>.cons _)
end

section
variable {C : Cx} {A : Around} {h h₀ h' : Heap} {env : Env} {l : List (Str × Option PV)} {cs cs' ds X : List (Addr × AO)} {K : Frag}
theorem x_sortKey {plN rN y plc : Str} {p0 p2 p3 p4 p5 q1 q2 q3 q4 kp : Pos} {prm : Arguments} {sc : Scope} {clos : List (Str × Addr)} {P c pl : Addr} {es : List (Nat × Nat × Addr)} {m : Nat} {PL : List PV} {kv : PV → PV} {lt : PV → PV → Bool} {Ty : Value} {rest : List Stmt} {Q : Flow → Heap → Prop} {l' : Addr → List (Str × Option PV)}
    (hA : Rm (m + 2) A) (Z : St env h₀ l ((P, tabA es) :: cs) h) (T : TabOk (env.qual ++ "<lambda>") es X) (hX : ∀ p ∈ X, p ∈ cs) (M : Lm h₀ c P)
    (hc : env.code = .ref c) (hg : env.globals = mainGlobals) (hdef : defaultsOf prm env = ([], [])) (hcl : closureFor sc env = Pure.pure clos)
    (ap : At l plN (.ref pl)) (dp : (plN == ("__debug__" : Str)) = false) (opl : (pl, .list PL) ∈ cs) (h2 : 2 ≤ PL.length) (h64 : PL.length < 64)
    (hgl : ∀ h', Keeps h₀ h' → Gl C A env h' (Str.ofString "sorted") (.builtin "sorted"))
    (key : ∀ h8, Keeps h₀ h8 → ∀ lf c' pm ctv, Own h8 lf (.raw (kla_obj "<lambda>" (env.qual ++ "<lambda>") prm (.Subscript (.Name y q1) (.Name plc q2) q3) sc clos pm c' ctv)) → Own h8 c' (codO (env.qual ++ "<lambda>")) → (∀ p ∈ cs, Own h8 p.1 p.2) → KeyOk C m h8 (.ref lf) PL kv)
    (hlt : ∀ h8, (∀ p ∈ cs, Own h8 p.1 p.2) → ∀ h', Keeps h8 h' → ∀ p ∈ PL, ∀ q ∈ PL, Ltk C A.in1.in1 h' (kv p) (kv q) (lt (kv p) (kv q)))
    (hT : ∀ h8, (∀ p ∈ cs, Own h8 p.1 p.2) → ∀ h', Keeps h8 h' → ∀ p ∈ PL, ∀ u, pv u = kv p → Looks C.M h' (typeOf u) Ty) (hT1 : (Ty != Value.type "tuple") = true) (hT2 : (Ty == Ty) = true)
    (hput : ∀ r, Put rN (.ref r) l (l' r))
    (k : ∀ r h' es' ds, TabOk (env.qual ++ "<lambda>") es' (ds ++ X) → St env h₀ (l' r) ((P, tabA es') :: (r, .list (sortOut false lt kv PL)) :: (ds ++ cs)) h' → Wp C A (execs rest env) Q h')
    (hs : swapsWith (.Call (.Name (Str.ofString "sorted") p0) [.Name plN p2] [⟨some (Str.ofString "key"), .Lambda prm (.Subscript (.Name y q1) (.Name plc q2) q3) sc q4, kp⟩] p3) (some (.Name rN p4)) p5.line env = Pure.pure false := by rfl) :
    Wp C A (execs (.Assign [.Name rN p4] (.Call (.Name (Str.ofString "sorted") p0) [.Name plN p2] [⟨some (Str.ofString "key"), .Lambda prm (.Subscript (.Name y q1) (.Name plc q2) q3) sc q4, kp⟩] p3) p5 :: rest) env) Q h := by
  refine x_assignW (w_call_bi_kw (hgl _ Z.keep) (w_args_cons (Pe.use (e_name Z ap dp) fun v hv => w_args_nil (w_kws_cons ?_)))) hs
  obtain rfl := pv_ref hv
  refine w_lambdaAny Z T M hc hg hdef hcl fun lf c' pm ctv h₁ es' ds T' hm Z₁ => w_kws_nil ?_
  have own : ∀ p ∈ cs, Own (h₁.hide env.locals) p.1 p.2 := fun p hp => Z₁.ownBase (.tail _ (.tail _ (List.mem_append_right _ hp)))
  have oc : Own (h₁.hide env.locals) c' (codO (env.qual ++ "<lambda>")) := by
    rcases List.mem_append.mp hm with hm | hm
    · exact Z₁.ownBase (.tail _ (.tail _ (List.mem_append_left _ hm)))
    · exact own (c', _) (hX _ hm)
  refine w_sortedKey (b := false) (n := m) (T := Ty) hA Z₁.rebase (Z₁.own (pl, .list PL) (.tail _ (.tail _ (List.mem_append_right _ opl)))) h2 h64 (ksk_s1 _ _) (fun x => ksk_l1 _ _) (fun x => ksk_t1 _ _) (key _ Z₁.keepBase lf c' pm ctv (Z₁.ownBase (.head _)) oc own) (fun h' kp p hp q hq => hlt _ own h' kp p hp q hq) (fun h' kp p hp u hu => hT _ own h' kp p hp u hu) hT1 hT2 fun r h₂ Z₂ => ?_
  have Z₃ := Z₁.back Z₂
  refine ⟨.ref r, _, _, _, _, rfl, Z₃, hput r, fun h₄ Z₄ => k r h₄ es' ds T' ?_⟩
  exact (Z₄.perm ((List.Perm.swap _ _ _).trans (.cons _ (.swap _ _ _)))).drop
theorem x_sortKeyRev {plN rN y plc : Str} {p0 p2 p3 p4 p5 q1 q2 q3 q4 kp kp2 bp : Pos} {bu : Nat} {prm : Arguments} {sc : Scope} {clos : List (Str × Addr)} {P c pl : Addr} {es : List (Nat × Nat × Addr)} {m : Nat} {PL : List PV} {kv : PV → PV} {lt : PV → PV → Bool} {Ty : Value} {rest : List Stmt} {Q : Flow → Heap → Prop} {l' : Addr → List (Str × Option PV)}
    (hA : Rm (m + 2) A) (Z : St env h₀ l ((P, tabA es) :: cs) h) (T : TabOk (env.qual ++ "<lambda>") es X) (hX : ∀ p ∈ X, p ∈ cs) (M : Lm h₀ c P)
    (hc : env.code = .ref c) (hg : env.globals = mainGlobals) (hdef : defaultsOf prm env = ([], [])) (hcl : closureFor sc env = Pure.pure clos)
    (ap : At l plN (.ref pl)) (dp : (plN == ("__debug__" : Str)) = false) (opl : (pl, .list PL) ∈ cs) (h2 : 2 ≤ PL.length) (h64 : PL.length < 64)
    (hgl : ∀ h', Keeps h₀ h' → Gl C A env h' (Str.ofString "sorted") (.builtin "sorted"))
    (key : ∀ h8, Keeps h₀ h8 → ∀ lf c' pm ctv, Own h8 lf (.raw (kla_obj "<lambda>" (env.qual ++ "<lambda>") prm (.Subscript (.Name y q1) (.Name plc q2) q3) sc clos pm c' ctv)) → Own h8 c' (codO (env.qual ++ "<lambda>")) → (∀ p ∈ cs, Own h8 p.1 p.2) → KeyOk C m h8 (.ref lf) PL kv)
    (hlt : ∀ h8, (∀ p ∈ cs, Own h8 p.1 p.2) → ∀ h', Keeps h8 h' → ∀ p ∈ PL, ∀ q ∈ PL, Ltk C A.in1.in1 h' (kv p) (kv q) (lt (kv p) (kv q)))
    (hT : ∀ h8, (∀ p ∈ cs, Own h8 p.1 p.2) → ∀ h', Keeps h8 h' → ∀ p ∈ PL, ∀ u, pv u = kv p → Looks C.M h' (typeOf u) Ty) (hT1 : (Ty != Value.type "tuple") = true) (hT2 : (Ty == Ty) = true)
    (hput : ∀ r, Put rN (.ref r) l (l' r))
    (k : ∀ r h' es' ds, TabOk (env.qual ++ "<lambda>") es' (ds ++ X) → St env h₀ (l' r) ((P, tabA es') :: (r, .list (sortOut true lt kv PL)) :: (ds ++ cs)) h' → Wp C A (execs rest env) Q h')
    (hs : swapsWith (.Call (.Name (Str.ofString "sorted") p0) [.Name plN p2] [⟨some (Str.ofString "key"), .Lambda prm (.Subscript (.Name y q1) (.Name plc q2) q3) sc q4, kp⟩, ⟨some (Str.ofString "reverse"), .Constant (.bool true) bu bp, kp2⟩] p3) (some (.Name rN p4)) p5.line env = Pure.pure false := by rfl) :
    Wp C A (execs (.Assign [.Name rN p4] (.Call (.Name (Str.ofString "sorted") p0) [.Name plN p2] [⟨some (Str.ofString "key"), .Lambda prm (.Subscript (.Name y q1) (.Name plc q2) q3) sc q4, kp⟩, ⟨some (Str.ofString "reverse"), .Constant (.bool true) bu bp, kp2⟩] p3) p5 :: rest) env) Q h := by
  refine x_assignW (w_call_bi_kw (hgl _ Z.keep) (w_args_cons (Pe.use (e_name Z ap dp) fun v hv => w_args_nil (w_kws_cons ?_)))) hs
  obtain rfl := pv_ref hv
  refine w_lambdaAny Z T M hc hg hdef hcl fun lf c' pm ctv h₁ es' ds T' hm Z₁ => w_kws_cons (Pe.use (p := .bool true) e_bool fun vb hvb => w_kws_nil ?_)
  obtain rfl := pv_bool hvb
  have own : ∀ p ∈ cs, Own (h₁.hide env.locals) p.1 p.2 := fun p hp => Z₁.ownBase (.tail _ (.tail _ (List.mem_append_right _ hp)))
  have oc : Own (h₁.hide env.locals) c' (codO (env.qual ++ "<lambda>")) := by
    rcases List.mem_append.mp hm with hm | hm
    · exact Z₁.ownBase (.tail _ (.tail _ (List.mem_append_left _ hm)))
    · exact own (c', _) (hX _ hm)
  refine w_sortedKey (b := true) (n := m) (T := Ty) hA Z₁.rebase (Z₁.own (pl, .list PL) (.tail _ (.tail _ (List.mem_append_right _ opl)))) h2 h64 (ksk_s2 _ _ _) (fun x => ksk_l2 _ _ _) (fun x => ksk_t2 _ _ _) (key _ Z₁.keepBase lf c' pm ctv (Z₁.ownBase (.head _)) oc own) (fun h' kp p hp q hq => hlt _ own h' kp p hp q hq) (fun h' kp p hp u hu => hT _ own h' kp p hp u hu) hT1 hT2 fun r h₂ Z₂ => ?_
  have Z₃ := Z₁.back Z₂
  refine ⟨.ref r, _, _, _, _, rfl, Z₃, hput r, fun h₄ Z₄ => k r h₄ es' ds T' ?_⟩
  exact (Z₄.perm ((List.Perm.swap _ _ _).trans (.cons _ (.swap _ _ _)))).drop
end

end Mine
local macro_rules | `(tactic| tm_at "pe") => `(tactic| (with_reducible repeat' (show (_ : Prop); first|assumption|refine' Mine.PeI.pe ?_|constructor|refine' Mine.CmI.cm ?_|decide|mul_fits|with_unfolding_all rfl)))

namespace Mine
open PySem PySem.W PyProof.Rows

theorem fillit : Mine.rw2 = Mine.rw2 ∧ hd.heap_39 = hd.heap_39 := by k_fill; exact ⟨rfl, rfl⟩
set_option maxHeartbeats 1000000
theorem siftdown_max_spec {C : Cx} {A : Around} {h : Heap} {P : Params} {n : Nat} {us : List Value} {a : Addr} {xs : List PV} {start pos : Nat} {lt : PV → PV → Bool} {Q : Value → Heap → Prop} (hA : Rm (n + 1) A) (G : Gd (hd.heap_39 P) (h.hide a))
    (o : Own h a (.list xs)) (hp : pos < xs.length) (hz : xs.length < 2 ^ 31) (oc : ∀ p ∈ xs, ∀ q ∈ xs, ∀ A' h', Rm n A' → Keeps (h.hide a) h' → Cm C A' h' .Lt p q (lt p q))
    (hu : us.map pv = [.ref a, .int start, .int pos])
    (k : ∀ h', Keeps (h.hide a) h' → Own h' a (.list (sdown lt start (xs.getD pos .none) pos xs pos)) → Q .none h') :
    Cp C A (.call (.ref 168) ⟨us, []⟩) (fun fl h' => ∃ v, fl = .ret v ∧ Q v h') h := by
  have F := Fn.mk (K := hd.heap_39 P) (f := 168) (xs := ["heap", "startpos", "pos"]) (ys := ["newitem", "parentpos", "parent"]) (by kernel_rfl) (fn_body (by k_is) (by exact rfl)) (by kernel_rfl) (by kernel_rfl) (fun _ => LocK.of (by kernel_rfl) (by kernel_rfl) (by decide +kernel)) (by kernel_rfl) (by kernel_rfl) (by kernel_rfl)
  obtain ⟨u1, u2, u3, rfl⟩ := args3 hu
  have G0 : Gd (hd.heap_39 P) h := G.keeps (keeps_hide h a)
  refine fn_enter (l := [("heap", some (.ref a)), ("startpos", some (.int start)), ("pos", some (.int pos)), ("newitem", none), ("parentpos", none), ("parent", none)]) (vs := [u1, u2, u3]) F hA G0 hu rfl (Bd.of_eq (by kernel_rfl)) rfl fun env h₁ E Z G' hR => ?_
  replace Z := Z.open o
  refine x_assign Z (e_item (by tm_at "pe") (by tm_at "pe") (Z.get (by repeat' with_reducible constructor)) (by exact Int.natCast_nonneg _) (by lia) (getD_at hp)) (by repeat' with_reducible constructor) fun h₂ Z₂ => ?_
  clear Z
  refine x_whileX (fun m h' => ∃ (ys : List PV) (p : Nat), m = p ∧ p < xs.length ∧ ys.length = xs.length ∧ (∀ q ∈ ys, q ∈ xs) ∧ sdown lt start (xs.getD pos .none) p ys p = sdown lt start (xs.getD pos .none) pos xs pos ∧
      St env (h.hide a) [("heap", some (.ref a)), ("startpos", some (.int start)), ("pos", some (.int p)), ("newitem", some (xs.getD pos .none)), ("parentpos", none), ("parent", none)] [(a, .list ys)] h')
    (fun h' => ∃ (ys : List PV) (p : Nat), p < ys.length ∧ ys.length = xs.length ∧ ys.set p (xs.getD pos .none) = sdown lt start (xs.getD pos .none) pos xs pos ∧
      St env (h.hide a) [("heap", some (.ref a)), ("startpos", some (.int start)), ("pos", some (.int p)), ("newitem", some (xs.getD pos .none)), ("parentpos", none), ("parent", none)] [(a, .list ys)] h')
    ?_ pos ⟨xs, pos, rfl, hp, rfl, fun _ m => m, rfl, Z₂⟩ ?_
  · clear Z₂ h₂
    rintro m h₂ ⟨ys, p, rfl, hpl, hyl, hym, hsd, Z⟩ R Y kR kY
    refine w_test (t_cmp (by tm_at "pe") (by tm_at "pe") (by repeat' (show (_ : Prop); first | with_reducible refine' CmI.cm ?_ | with_reducible constructor | rfl)) rfl) (fun e => ?_) (fun e => ?_)
    · simp only [decide_eq_true_eq] at e
      refine x_assign Z (by tm_at "pe") (by repeat' with_reducible constructor) fun h₃ Z₃ => ?_
      rw [half_int (by lia)] at Z₃
      refine x_assign Z₃ (e_item (by tm_at "pe") (by tm_at "pe") (Z₃.get (by repeat' with_reducible constructor)) (by exact Int.natCast_nonneg _) (by lia) (getD_at (by lia))) (by repeat' with_reducible constructor) fun h₄ Z₄ => ?_
      have hm1 : ys.getD ((m - 1) / 2) .none ∈ xs := hym _ (getD_mem (by lia))
      refine x_if (t_cmp (by tm_at "pe") (by tm_at "pe") (oc _ hm1 _ (getD_mem hp) _ _ hR Z₄.keep) rfl) (fun e1 => ?_) (fun e1 => ?_)
      · refine x_setitem Z₄ (by tm_at "pe") (by tm_at "pe") (by tm_at "pe") (by repeat' with_reducible constructor) (by repeat' with_reducible constructor) (by exact Int.natCast_nonneg _) (by lia) (by lia) fun h₅ Z₅ => ?_
        refine x_assign Z₅ (by tm_at "pe") (by repeat' with_reducible constructor) fun h₆ Z₆ => ?_
        refine x_cont (sq_cont (kR <| lp_cont ⟨(m - 1) / 2, by lia, _, _, rfl, by lia, by simpa using hyl, ?_, ?_, Z₆.wk (.keep (.keep (.keep (.keep (.forget (.forget .nil))))))⟩))
        · intro q hq
          rcases List.mem_or_eq_of_mem_set hq with e | e
          · exact hym q e
          · rw [e]; exact hm1
        · rw [← hsd, sdown_go (b := lt) (pos := m) (by lia) e1]; rfl
      · refine x_done (x_brk (kR <| lp_brk (sx_next ⟨ys, m, by lia, hyl, ?_, Z₄.wk (.keep (.keep (.keep (.keep (.forget (.forget .nil))))))⟩)))
        rw [← hsd, sdown_stop (b := lt) (pos := m) (.inr e1)]
    · simp only [decide_eq_false_iff_not] at e
      refine kY ⟨ys, m, by lia, hyl, ?_, Z⟩
      rw [← hsd, sdown_stop (b := lt) (pos := m) (.inl (by lia))]
  · rintro h₃ ⟨ys, p, hpl, hyl, e, Z⟩
    refine x_setitem Z (by tm_at "pe") (by tm_at "pe") (by tm_at "pe") (by repeat' with_reducible constructor) (by repeat' with_reducible constructor) (by exact Int.natCast_nonneg _) (by lia) (by lia) fun h₄ Z₄ => ?_
    refine x_nil (fq_next (k h₄ Z₄.keep ?_))
    rw [← e]; exact Z₄.get .here
theorem siftdown_spec {C : Cx} {A : Around} {h : Heap} {P : Params} {n : Nat} {us : List Value} {a : Addr} {xs : List PV} {start pos : Nat} {lt : PV → PV → Bool} {Q : Value → Heap → Prop} (hA : Rm (n + 1) A) (G : Gd (hd.heap_39 P) (h.hide a))
    (o : Own h a (.list xs)) (hp : pos < xs.length) (hz : xs.length < 2 ^ 31) (oc : ∀ p ∈ xs, ∀ q ∈ xs, ∀ A' h', Rm n A' → Keeps (h.hide a) h' → Cm C A' h' .Lt p q (lt p q))
    (hu : us.map pv = [.ref a, .int start, .int pos])
    (k : ∀ h', Keeps (h.hide a) h' → Own h' a (.list (sdown (fun p x => lt x p) start (xs.getD pos .none) pos xs pos)) → Q .none h') :
    Cp C A (.call (.ref 154) ⟨us, []⟩) (fun fl h' => ∃ v, fl = .ret v ∧ Q v h') h := by
  have F := Fn.mk (K := hd.heap_39 P) (f := 154) (xs := ["heap", "startpos", "pos"]) (ys := ["newitem", "parentpos", "parent"]) (by kernel_rfl) (fn_body (by k_is) (by exact rfl)) (by kernel_rfl) (by kernel_rfl) (fun _ => LocK.of (by kernel_rfl) (by kernel_rfl) (by decide +kernel)) (by kernel_rfl) (by kernel_rfl) (by kernel_rfl)
  obtain ⟨u1, u2, u3, rfl⟩ := args3 hu
  have G0 : Gd (hd.heap_39 P) h := G.keeps (keeps_hide h a)
  refine fn_enter (l := [("heap", some (.ref a)), ("startpos", some (.int start)), ("pos", some (.int pos)), ("newitem", none), ("parentpos", none), ("parent", none)]) (vs := [u1, u2, u3]) F hA G0 hu rfl (Bd.of_eq (by kernel_rfl)) rfl fun env h₁ E Z G' hR => ?_
  replace Z := Z.open o
  refine x_assign Z (e_item (by tm_at "pe") (by tm_at "pe") (Z.get (by repeat' with_reducible constructor)) (by exact Int.natCast_nonneg _) (by lia) (getD_at hp)) (by repeat' with_reducible constructor) fun h₂ Z₂ => ?_
  clear Z
  refine x_whileX (fun m h' => ∃ (ys : List PV) (p : Nat), m = p ∧ p < xs.length ∧ ys.length = xs.length ∧ (∀ q ∈ ys, q ∈ xs) ∧ sdown (fun p x => lt x p) start (xs.getD pos .none) p ys p = sdown (fun p x => lt x p) start (xs.getD pos .none) pos xs pos ∧
      St env (h.hide a) [("heap", some (.ref a)), ("startpos", some (.int start)), ("pos", some (.int p)), ("newitem", some (xs.getD pos .none)), ("parentpos", none), ("parent", none)] [(a, .list ys)] h')
    (fun h' => ∃ (ys : List PV) (p : Nat), p < ys.length ∧ ys.length = xs.length ∧ ys.set p (xs.getD pos .none) = sdown (fun p x => lt x p) start (xs.getD pos .none) pos xs pos ∧
      St env (h.hide a) [("heap", some (.ref a)), ("startpos", some (.int start)), ("pos", some (.int p)), ("newitem", some (xs.getD pos .none)), ("parentpos", none), ("parent", none)] [(a, .list ys)] h')
    ?_ pos ⟨xs, pos, rfl, hp, rfl, fun _ m => m, rfl, Z₂⟩ ?_
  · clear Z₂ h₂
    rintro m h₂ ⟨ys, p, rfl, hpl, hyl, hym, hsd, Z⟩ R Y kR kY
    refine w_test (t_cmp (by tm_at "pe") (by tm_at "pe") (by repeat' (show (_ : Prop); first | with_reducible refine' CmI.cm ?_ | with_reducible constructor | rfl)) rfl) (fun e => ?_) (fun e => ?_)
    · simp only [decide_eq_true_eq] at e
      refine x_assign Z (by tm_at "pe") (by repeat' with_reducible constructor) fun h₃ Z₃ => ?_
      rw [half_int (by lia)] at Z₃
      refine x_assign Z₃ (e_item (by tm_at "pe") (by tm_at "pe") (Z₃.get (by repeat' with_reducible constructor)) (by exact Int.natCast_nonneg _) (by lia) (getD_at (by lia))) (by repeat' with_reducible constructor) fun h₄ Z₄ => ?_
      have hm1 : ys.getD ((m - 1) / 2) .none ∈ xs := hym _ (getD_mem (by lia))
      refine x_if (t_cmp (by tm_at "pe") (by tm_at "pe") (oc _ (getD_mem hp) _ hm1 _ _ hR Z₄.keep) rfl) (fun e1 => ?_) (fun e1 => ?_)
      · refine x_setitem Z₄ (by tm_at "pe") (by tm_at "pe") (by tm_at "pe") (by repeat' with_reducible constructor) (by repeat' with_reducible constructor) (by exact Int.natCast_nonneg _) (by lia) (by lia) fun h₅ Z₅ => ?_
        refine x_assign Z₅ (by tm_at "pe") (by repeat' with_reducible constructor) fun h₆ Z₆ => ?_
        refine x_cont (sq_cont (kR <| lp_cont ⟨(m - 1) / 2, by lia, _, _, rfl, by lia, by simpa using hyl, ?_, ?_, Z₆.wk (.keep (.keep (.keep (.keep (.forget (.forget .nil))))))⟩))
        · intro q hq
          rcases List.mem_or_eq_of_mem_set hq with e | e
          · exact hym q e
          · rw [e]; exact hm1
        · rw [← hsd, sdown_go (b := fun p x => lt x p) (pos := m) (by lia) e1]; rfl
      · refine x_done (x_brk (kR <| lp_brk (sx_next ⟨ys, m, by lia, hyl, ?_, Z₄.wk (.keep (.keep (.keep (.keep (.forget (.forget .nil))))))⟩)))
        rw [← hsd, sdown_stop (b := fun p x => lt x p) (pos := m) (.inr e1)]
    · simp only [decide_eq_false_iff_not] at e
      refine kY ⟨ys, m, by lia, hyl, ?_, Z⟩
      rw [← hsd, sdown_stop (b := fun p x => lt x p) (pos := m) (.inl (by lia))]
  · rintro h₃ ⟨ys, p, hpl, hyl, e, Z⟩
    refine x_setitem Z (by tm_at "pe") (by tm_at "pe") (by tm_at "pe") (by repeat' with_reducible constructor) (by repeat' with_reducible constructor) (by exact Int.natCast_nonneg _) (by lia) (by lia) fun h₄ Z₄ => ?_
    refine x_nil (fq_next (k h₄ Z₄.keep ?_))
    rw [← e]; exact Z₄.get .here

theorem siftup_max_spec {C : Cx} {A : Around} {h : Heap} {P : Params} {n : Nat} {us : List Value} {a : Addr} {xs : List PV} {pos : Nat} {lt : PV → PV → Bool} {Q : Value → Heap → Prop} (hA : Rm (n + 2) A) (G : Gd (hd.heap_39 P) (h.hide a))
    (o : Own h a (.list xs)) (hp : pos < xs.length) (hz : xs.length < 2 ^ 31) (oc : ∀ p ∈ xs, ∀ q ∈ xs, ∀ A' h', Rm n A' → Keeps (h.hide a) h' → Cm C A' h' .Lt p q (lt p q))
    (hu : us.map pv = [.ref a, .int pos])
    (k : ∀ h', Keeps (h.hide a) h' → Own h' a (.list (siftup lt (fun x y => !lt y x) xs pos)) → Q .none h') :
    Cp C A (.call (.ref 175) ⟨us, []⟩) (fun fl h' => ∃ v, fl = .ret v ∧ Q v h') h := by
  have F := Fn.mk (K := hd.heap_39 P) (f := 175) (xs := ["heap", "pos"]) (ys := ["endpos", "startpos", "newitem", "childpos", "rightpos"]) (by kernel_rfl) (fn_body (by k_is) (by exact rfl)) (by kernel_rfl) (by kernel_rfl) (fun _ => LocK.of (by kernel_rfl) (by kernel_rfl) (by decide +kernel)) (by kernel_rfl) (by kernel_rfl) (by kernel_rfl)
  obtain ⟨u1, u2, rfl⟩ := args2 hu
  have G0 : Gd (hd.heap_39 P) h := G.keeps (keeps_hide h a)
  refine fn_enter (l := [("heap", some (.ref a)), ("pos", some (.int pos)), ("endpos", none), ("startpos", none), ("newitem", none), ("childpos", none), ("rightpos", none)]) (vs := [u1, u2]) F hA G0 hu rfl (Bd.of_eq (by kernel_rfl)) rfl fun env h₁ E Z G' hR1 => ?_
  have hR : Rm n _ := hR1.less (by exact Nat.le_add_right _ _)
  replace Z := Z.open o
  refine x_assign Z (e_len (gl_bootE G' E (by kernel_rfl) boot_len (by decide +kernel) (by kernel_rfl)) (by tm_at "pe") (Z.get (by repeat' with_reducible constructor)) (by exact Nat.lt_of_lt_of_le (by assumption) (by decide))) (by repeat' with_reducible constructor) fun h₂ Z₂ => ?_
  refine x_assign Z₂ (by tm_at "pe") (by repeat' with_reducible constructor) fun h₃ Z₃ => ?_
  refine x_assign Z₃ (e_item (by tm_at "pe") (by tm_at "pe") (Z₃.get (by repeat' with_reducible constructor)) (by exact Int.natCast_nonneg _) (by lia) (getD_at hp)) (by repeat' with_reducible constructor) fun h₄ Z₄ => ?_
  refine x_assign Z₄ (by tm_at "pe") (by repeat' with_reducible constructor) fun h₅ Z₅ => ?_
  clear Z Z₂ Z₃ Z₄
  refine x_whileX (fun m h' => ∃ (ys : List PV) (p : Nat), m = xs.length - p ∧ p < xs.length ∧ ys.length = xs.length ∧ (∀ q ∈ ys, q ∈ xs) ∧ sup (fun x y => !lt y x) ys.length ys p = sup (fun x y => !lt y x) xs.length xs pos ∧
      St env (h.hide a) [("heap", some (.ref a)), ("pos", some (.int (p : Nat))), ("endpos", some (.int (xs.length : Int))), ("startpos", some (.int (pos : Nat))), ("newitem", some (xs.getD pos .none)), ("childpos", some (.int (2 * (p : Int) + 1))), ("rightpos", none)] [(a, .list ys)] h')
    (fun h' => ∃ (ys : List PV) (p : Nat), p < xs.length ∧ ys.length = xs.length ∧ (∀ q ∈ ys, q ∈ xs) ∧ sup (fun x y => !lt y x) xs.length xs pos = (ys, p) ∧
      St env (h.hide a) [("heap", some (.ref a)), ("pos", some (.int (p : Nat))), ("endpos", some (.int (xs.length : Int))), ("startpos", some (.int (pos : Nat))), ("newitem", some (xs.getD pos .none)), ("childpos", none), ("rightpos", none)] [(a, .list ys)] h')
    ?_ _ ⟨xs, pos, rfl, hp, rfl, fun _ m => m, rfl, Z₅⟩ ?_
  · clear Z₅ h₅ h₂ h₃ h₄
    rintro m h₂ ⟨ys, p, rfl, hpl, hyl, hym, hsd, Z⟩ R Y kR kY
    refine w_test (t_cmp (by tm_at "pe") (by tm_at "pe") (by repeat' (show (_ : Prop); first | with_reducible refine' CmI.cm ?_ | with_reducible constructor | rfl)) rfl) (fun e => ?_) (fun e => ?_)
    · simp only [decide_eq_true_eq] at e
      refine x_assign Z (by tm_at "pe") (by repeat' with_reducible constructor) fun h₃ Z₃ => ?_
      have il : ((2 * p + 1 : Nat) : Int) = 2 * (p : Int) + 1 := by lia
      have ir : ((2 * p + 2 : Nat) : Int) = 2 * (p : Int) + 1 + 1 := by lia
      refine x_ifJ (b := decide (2 * (p : Int) + 1 + 1 < (xs.length : Int)) && !(lt (ys.getD (2 * p + 2) .none) (ys.getD (2 * p + 1) .none)))
        (fun h' => ∃ q : Nat, q < xs.length ∧ p < q ∧ sup (fun x y => !lt y x) (ys.set p (ys.getD q .none)).length (ys.set p (ys.getD q .none)) q = sup (fun x y => !lt y x) xs.length xs pos ∧
          St env (h.hide a) [("heap", some (.ref a)), ("pos", some (.int (p : Nat))), ("endpos", some (.int (xs.length : Int))), ("startpos", some (.int (pos : Nat))), ("newitem", some (xs.getD pos .none)), ("childpos", some (.int (q : Nat))), ("rightpos", none)] [(a, .list ys)] h')
        (t_and2 (t_cmp (by tm_at "pe") (by tm_at "pe") (by repeat' (show (_ : Prop); first | with_reducible refine' CmI.cm ?_ | with_reducible constructor | rfl)) rfl) fun e1 => ?_) (fun S kS e1 => ?_) (fun S kS e1 => ?_) ?_
      · simp only [decide_eq_true_eq] at e1
        exact t_not (t_cmp (e_item (k := ((2 * p + 2 : Nat) : Int)) (by tm_at "pe") (by rw [ir]; tm_at "pe") (Z₃.get (by repeat' with_reducible constructor)) (by exact Int.natCast_nonneg _) (by lia) (getD_at (xs := ys) (i := 2 * p + 2) (by lia))) (e_item (k := ((2 * p + 1 : Nat) : Int)) (by tm_at "pe") (by rw [il]; tm_at "pe") (Z₃.get (by repeat' with_reducible constructor)) (by exact Int.natCast_nonneg _) (by lia) (getD_at (xs := ys) (i := 2 * p + 1) (by lia))) (oc _ (hym _ (getD_mem (by lia))) _ (hym _ (getD_mem (by lia))) _ _ hR Z₃.keep) rfl)
      · simp only [Bool.and_eq_true, decide_eq_true_eq] at e1
        refine x_assign Z₃ (by tm_at "pe") (by repeat' with_reducible constructor) fun h₄ Z₄ => ?_
        refine x_nil (kS <| sx_next ⟨2 * p + 2, by lia, by lia, ?_, ?_⟩)
        · rw [← hsd]; exact (sup_right (by lia) e1.2).symm
        · rw [ir]; exact Z₄.wk (.keep (.keep (.keep (.keep (.keep (.keep (.forget .nil)))))))
      · refine x_nil (kS <| sx_next ⟨2 * p + 1, by lia, by lia, ?_, ?_⟩)
        · rw [← hsd]
          refine (sup_left (by lia) fun z => ?_).symm
          rw [Bool.and_eq_false_iff] at e1
          rcases e1 with e1 | e1
          · simp only [decide_eq_false_iff_not] at e1; lia
          · have z2 := z.2
            rw [e1] at z2; cases z2
        · rw [il]; exact Z₃.wk (.keep (.keep (.keep (.keep (.keep (.keep (.forget .nil)))))))
      · rintro h₄ ⟨q, hq, hpq, hs, Z₄⟩
        refine x_setitem Z₄ (e_item (by tm_at "pe") (by tm_at "pe") (Z₄.get (by repeat' with_reducible constructor)) (by exact Int.natCast_nonneg _) (by lia) (getD_at (by lia))) (by tm_at "pe") (by tm_at "pe") (by repeat' with_reducible constructor) (by repeat' with_reducible constructor) (by exact Int.natCast_nonneg _) (by lia) (by lia) fun h₅ Z₅ => ?_
        refine x_assign Z₅ (by tm_at "pe") (by repeat' with_reducible constructor) fun h₆ Z₆ => ?_
        refine x_assign Z₆ (by tm_at "pe") (by repeat' with_reducible constructor) fun h₇ Z₇ => ?_
        refine x_nil (kR <| lp_next ⟨xs.length - q, by lia, _, q, rfl, hq, by simpa using hyl, ?_, hs, Z₇⟩)
        intro r hr
        rcases List.mem_or_eq_of_mem_set hr with e | e
        · exact hym r e
        · rw [e]; exact hym _ (getD_mem (by lia))
    · simp only [decide_eq_false_iff_not] at e
      refine kY ⟨ys, p, hpl, hyl, hym, ?_, Z.wk (.keep (.keep (.keep (.keep (.keep (.forget (.keep .nil)))))))⟩
      rw [← hsd, sup_stop (by lia)]
  · clear Z₅ h₅ h₂ h₃ h₄
    rintro h₂ ⟨ys, p, hpl, hyl, hym, hs, Z⟩
    refine x_setitem Z (by tm_at "pe") (by tm_at "pe") (by tm_at "pe") (by repeat' with_reducible constructor) (by repeat' with_reducible constructor) (by exact Int.natCast_nonneg _) (by lia) (by lia) fun h₃ Z₃ => ?_
    have Ga : Gd (hd.heap_39 P) h₃ := G.keeps Z₃.keep
    refine x_call (gl_topE (v := .ref 168) Ga E (by kernel_rfl) (by kernel_rfl)) (Ga.fn (f := 168) (by kernel_rfl)) (ps_cons (by tm_at "pe") (ps_cons (by tm_at "pe") (ps_cons (by tm_at "pe") ps_nil))) rfl (fun vs hvs => ?_) E.inter
    have hset : ∀ q ∈ ys.set p (xs.getD pos .none), q ∈ xs := fun q hq => by
      rcases List.mem_or_eq_of_mem_set hq with e | e
      · exact hym q e
      · rw [e]; exact getD_mem hp
    have kh : Keeps (h.hide a) (h₃.hide a) := Z₃.keepHide .here
    refine siftdown_max_spec (start := pos) (pos := p) (lt := lt) (xs := ys.set p (xs.getD pos .none)) hR1 (G.keeps kh) (Z₃.get .here) (by simpa [hyl] using hpl) (by simpa [hyl] using hz) (fun q hq r hr A' h' rm kp => oc q (hset q hq) r (hset r hr) A' h' rm (kh.trans kp)) hvs (fun h₄ k4 o4 => ?_)
    refine ⟨(fun _ z => nomatch z), x_nil (fq_next (k h₄ (kh.trans k4) ?_))⟩
    have e1 : (ys.set p (xs.getD pos .none)).getD p .none = xs.getD pos .none := by
      rw [List.getD_eq_getElem?_getD, List.getElem?_set_self (by lia)]; rfl
    rw [e1] at o4
    unfold siftup
    rw [hs]; exact o4

theorem siftup_spec {C : Cx} {A : Around} {h : Heap} {P : Params} {n : Nat} {us : List Value} {a : Addr} {xs : List PV} {pos : Nat} {lt : PV → PV → Bool} {Q : Value → Heap → Prop} (hA : Rm (n + 2) A) (G : Gd (hd.heap_39 P) (h.hide a))
    (o : Own h a (.list xs)) (hp : pos < xs.length) (hz : xs.length < 2 ^ 31) (oc : ∀ p ∈ xs, ∀ q ∈ xs, ∀ A' h', Rm n A' → Keeps (h.hide a) h' → Cm C A' h' .Lt p q (lt p q))
    (hu : us.map pv = [.ref a, .int pos])
    (k : ∀ h', Keeps (h.hide a) h' → Own h' a (.list (siftup (fun p x => lt x p) (fun x y => !lt x y) xs pos)) → Q .none h') :
    Cp C A (.call (.ref 161) ⟨us, []⟩) (fun fl h' => ∃ v, fl = .ret v ∧ Q v h') h := by
  have F := Fn.mk (K := hd.heap_39 P) (f := 161) (xs := ["heap", "pos"]) (ys := ["endpos", "startpos", "newitem", "childpos", "rightpos"]) (by kernel_rfl) (fn_body (by k_is) (by exact rfl)) (by kernel_rfl) (by kernel_rfl) (fun _ => LocK.of (by kernel_rfl) (by kernel_rfl) (by decide +kernel)) (by kernel_rfl) (by kernel_rfl) (by kernel_rfl)
  obtain ⟨u1, u2, rfl⟩ := args2 hu
  have G0 : Gd (hd.heap_39 P) h := G.keeps (keeps_hide h a)
  refine fn_enter (l := [("heap", some (.ref a)), ("pos", some (.int pos)), ("endpos", none), ("startpos", none), ("newitem", none), ("childpos", none), ("rightpos", none)]) (vs := [u1, u2]) F hA G0 hu rfl (Bd.of_eq (by kernel_rfl)) rfl fun env h₁ E Z G' hR1 => ?_
  have hR : Rm n _ := hR1.less (by exact Nat.le_add_right _ _)
  replace Z := Z.open o
  refine x_assign Z (e_len (gl_bootE G' E (by kernel_rfl) boot_len (by decide +kernel) (by kernel_rfl)) (by tm_at "pe") (Z.get (by repeat' with_reducible constructor)) (by exact Nat.lt_of_lt_of_le (by assumption) (by decide))) (by repeat' with_reducible constructor) fun h₂ Z₂ => ?_
  refine x_assign Z₂ (by tm_at "pe") (by repeat' with_reducible constructor) fun h₃ Z₃ => ?_
  refine x_assign Z₃ (e_item (by tm_at "pe") (by tm_at "pe") (Z₃.get (by repeat' with_reducible constructor)) (by exact Int.natCast_nonneg _) (by lia) (getD_at hp)) (by repeat' with_reducible constructor) fun h₄ Z₄ => ?_
  refine x_assign Z₄ (by tm_at "pe") (by repeat' with_reducible constructor) fun h₅ Z₅ => ?_
  clear Z Z₂ Z₃ Z₄
  refine x_whileX (fun m h' => ∃ (ys : List PV) (p : Nat), m = xs.length - p ∧ p < xs.length ∧ ys.length = xs.length ∧ (∀ q ∈ ys, q ∈ xs) ∧ sup (fun x y => !lt x y) ys.length ys p = sup (fun x y => !lt x y) xs.length xs pos ∧
      St env (h.hide a) [("heap", some (.ref a)), ("pos", some (.int (p : Nat))), ("endpos", some (.int (xs.length : Int))), ("startpos", some (.int (pos : Nat))), ("newitem", some (xs.getD pos .none)), ("childpos", some (.int (2 * (p : Int) + 1))), ("rightpos", none)] [(a, .list ys)] h')
    (fun h' => ∃ (ys : List PV) (p : Nat), p < xs.length ∧ ys.length = xs.length ∧ (∀ q ∈ ys, q ∈ xs) ∧ sup (fun x y => !lt x y) xs.length xs pos = (ys, p) ∧
      St env (h.hide a) [("heap", some (.ref a)), ("pos", some (.int (p : Nat))), ("endpos", some (.int (xs.length : Int))), ("startpos", some (.int (pos : Nat))), ("newitem", some (xs.getD pos .none)), ("childpos", none), ("rightpos", none)] [(a, .list ys)] h')
    ?_ _ ⟨xs, pos, rfl, hp, rfl, fun _ m => m, rfl, Z₅⟩ ?_
  · clear Z₅ h₅ h₂ h₃ h₄
    rintro m h₂ ⟨ys, p, rfl, hpl, hyl, hym, hsd, Z⟩ R Y kR kY
    refine w_test (t_cmp (by tm_at "pe") (by tm_at "pe") (by repeat' (show (_ : Prop); first | with_reducible refine' CmI.cm ?_ | with_reducible constructor | rfl)) rfl) (fun e => ?_) (fun e => ?_)
    · simp only [decide_eq_true_eq] at e
      refine x_assign Z (by tm_at "pe") (by repeat' with_reducible constructor) fun h₃ Z₃ => ?_
      have il : ((2 * p + 1 : Nat) : Int) = 2 * (p : Int) + 1 := by lia
      have ir : ((2 * p + 2 : Nat) : Int) = 2 * (p : Int) + 1 + 1 := by lia
      refine x_ifJ (b := decide (2 * (p : Int) + 1 + 1 < (xs.length : Int)) && !(lt (ys.getD (2 * p + 1) .none) (ys.getD (2 * p + 2) .none)))
        (fun h' => ∃ q : Nat, q < xs.length ∧ p < q ∧ sup (fun x y => !lt x y) (ys.set p (ys.getD q .none)).length (ys.set p (ys.getD q .none)) q = sup (fun x y => !lt x y) xs.length xs pos ∧
          St env (h.hide a) [("heap", some (.ref a)), ("pos", some (.int (p : Nat))), ("endpos", some (.int (xs.length : Int))), ("startpos", some (.int (pos : Nat))), ("newitem", some (xs.getD pos .none)), ("childpos", some (.int (q : Nat))), ("rightpos", none)] [(a, .list ys)] h')
        (t_and2 (t_cmp (by tm_at "pe") (by tm_at "pe") (by repeat' (show (_ : Prop); first | with_reducible refine' CmI.cm ?_ | with_reducible constructor | rfl)) rfl) fun e1 => ?_) (fun S kS e1 => ?_) (fun S kS e1 => ?_) ?_
      · simp only [decide_eq_true_eq] at e1
        exact t_not (t_cmp (e_item (k := ((2 * p + 1 : Nat) : Int)) (by tm_at "pe") (by rw [il]; tm_at "pe") (Z₃.get (by repeat' with_reducible constructor)) (by exact Int.natCast_nonneg _) (by lia) (getD_at (xs := ys) (i := 2 * p + 1) (by lia))) (e_item (k := ((2 * p + 2 : Nat) : Int)) (by tm_at "pe") (by rw [ir]; tm_at "pe") (Z₃.get (by repeat' with_reducible constructor)) (by exact Int.natCast_nonneg _) (by lia) (getD_at (xs := ys) (i := 2 * p + 2) (by lia))) (oc _ (hym _ (getD_mem (by lia))) _ (hym _ (getD_mem (by lia))) _ _ hR Z₃.keep) rfl)
      · simp only [Bool.and_eq_true, decide_eq_true_eq] at e1
        refine x_assign Z₃ (by tm_at "pe") (by repeat' with_reducible constructor) fun h₄ Z₄ => ?_
        refine x_nil (kS <| sx_next ⟨2 * p + 2, by lia, by lia, ?_, ?_⟩)
        · rw [← hsd]; exact (sup_right (by lia) e1.2).symm
        · rw [ir]; exact Z₄.wk (.keep (.keep (.keep (.keep (.keep (.keep (.forget .nil)))))))
      · refine x_nil (kS <| sx_next ⟨2 * p + 1, by lia, by lia, ?_, ?_⟩)
        · rw [← hsd]
          refine (sup_left (by lia) fun z => ?_).symm
          rw [Bool.and_eq_false_iff] at e1
          rcases e1 with e1 | e1
          · simp only [decide_eq_false_iff_not] at e1; lia
          · have z2 := z.2
            rw [e1] at z2; cases z2
        · rw [il]; exact Z₃.wk (.keep (.keep (.keep (.keep (.keep (.keep (.forget .nil)))))))
      · rintro h₄ ⟨q, hq, hpq, hs, Z₄⟩
        refine x_setitem Z₄ (e_item (by tm_at "pe") (by tm_at "pe") (Z₄.get (by repeat' with_reducible constructor)) (by exact Int.natCast_nonneg _) (by lia) (getD_at (by lia))) (by tm_at "pe") (by tm_at "pe") (by repeat' with_reducible constructor) (by repeat' with_reducible constructor) (by exact Int.natCast_nonneg _) (by lia) (by lia) fun h₅ Z₅ => ?_
        refine x_assign Z₅ (by tm_at "pe") (by repeat' with_reducible constructor) fun h₆ Z₆ => ?_
        refine x_assign Z₆ (by tm_at "pe") (by repeat' with_reducible constructor) fun h₇ Z₇ => ?_
        refine x_nil (kR <| lp_next ⟨xs.length - q, by lia, _, q, rfl, hq, by simpa using hyl, ?_, hs, Z₇⟩)
        intro r hr
        rcases List.mem_or_eq_of_mem_set hr with e | e
        · exact hym r e
        · rw [e]; exact hym _ (getD_mem (by lia))
    · simp only [decide_eq_false_iff_not] at e
      refine kY ⟨ys, p, hpl, hyl, hym, ?_, Z.wk (.keep (.keep (.keep (.keep (.keep (.forget (.keep .nil)))))))⟩
      rw [← hsd, sup_stop (by lia)]
  · clear Z₅ h₅ h₂ h₃ h₄
    rintro h₂ ⟨ys, p, hpl, hyl, hym, hs, Z⟩
    refine x_setitem Z (by tm_at "pe") (by tm_at "pe") (by tm_at "pe") (by repeat' with_reducible constructor) (by repeat' with_reducible constructor) (by exact Int.natCast_nonneg _) (by lia) (by lia) fun h₃ Z₃ => ?_
    have Ga : Gd (hd.heap_39 P) h₃ := G.keeps Z₃.keep
    refine x_call (gl_topE (v := .ref 154) Ga E (by kernel_rfl) (by kernel_rfl)) (Ga.fn (f := 154) (by kernel_rfl)) (ps_cons (by tm_at "pe") (ps_cons (by tm_at "pe") (ps_cons (by tm_at "pe") ps_nil))) rfl (fun vs hvs => ?_) E.inter
    have hset : ∀ q ∈ ys.set p (xs.getD pos .none), q ∈ xs := fun q hq => by
      rcases List.mem_or_eq_of_mem_set hq with e | e
      · exact hym q e
      · rw [e]; exact getD_mem hp
    have kh : Keeps (h.hide a) (h₃.hide a) := Z₃.keepHide .here
    refine siftdown_spec (start := pos) (pos := p) (lt := lt) (xs := ys.set p (xs.getD pos .none)) hR1 (G.keeps kh) (Z₃.get .here) (by simpa [hyl] using hpl) (by simpa [hyl] using hz) (fun q hq r hr A' h' rm kp => oc q (hset q hq) r (hset r hr) A' h' rm (kh.trans kp)) hvs (fun h₄ k4 o4 => ?_)
    refine ⟨(fun _ z => nomatch z), x_nil (fq_next (k h₄ (kh.trans k4) ?_))⟩
    have e1 : (ys.set p (xs.getD pos .none)).getD p .none = xs.getD pos .none := by
      rw [List.getD_eq_getElem?_getD, List.getElem?_set_self (by lia)]; rfl
    rw [e1] at o4
    unfold siftup
    rw [hs]; exact o4


set_option maxHeartbeats 1000000

theorem heapify_max_spec {C : Cx} {A : Around} {h : Heap} {P : Params} {n : Nat} {us : List Value} {a : Addr} {xs : List PV} {lt : PV → PV → Bool} {Q : Value → Heap → Prop} (hA : Rm (n + 3) A) (G : Gd (hd.heap_39 P) (h.hide a))
    (o : Own h a (.list xs)) (hz : xs.length < 2 ^ 31) (oc : ∀ p ∈ xs, ∀ q ∈ xs, ∀ A' h', Rm n A' → Keeps (h.hide a) h' → Cm C A' h' .Lt p q (lt p q))
    (hu : us.map pv = [.ref a])
    (k : ∀ h', Keeps (h.hide a) h' → Own h' a (.list (hfy lt (fun x y => !lt y x) (xs.length / 2) xs)) → Q .none h') :
    Cp C A (.call (.ref 147) ⟨us, []⟩) (fun fl h' => ∃ v, fl = .ret v ∧ Q v h') h := by
  have F := Fn.mk (K := hd.heap_39 P) (f := 147) (xs := ["x"]) (ys := ["n", "i"]) (by kernel_rfl) (fn_body (by k_is) (by exact rfl)) (by kernel_rfl) (by kernel_rfl) (fun _ => LocK.of (by kernel_rfl) (by kernel_rfl) (by decide +kernel)) (by kernel_rfl) (by kernel_rfl) (by kernel_rfl)
  obtain ⟨u1, rfl⟩ := args1 hu
  have G0 : Gd (hd.heap_39 P) h := G.keeps (keeps_hide h a)
  refine fn_enter (l := [("x", some (.ref a)), ("n", none), ("i", none)]) (vs := [u1]) F hA G0 hu rfl (Bd.of_eq (by kernel_rfl)) rfl fun env h₁ E Z G' hR => ?_
  replace Z := Z.open o
  refine x_assign Z (e_len (gl_bootE G' E (by kernel_rfl) boot_len (by decide +kernel) (by kernel_rfl)) (by tm_at "pe") (Z.get (by repeat' with_reducible constructor)) (by exact Nat.lt_of_lt_of_le (by assumption) (by decide))) (by repeat' with_reducible constructor) fun h₂ Z₂ => ?_
  have G2 : Gd (hd.heap_39 P) h₂ := G.keeps Z₂.keep
  have e2 : (xs.length : Int).fdiv 2 = ((xs.length / 2 : Nat) : Int) := by rw [Int.fdiv_eq_ediv_of_nonneg _ (by decide)]; lia
  refine x_forX (fun h' => ∃ i, St env (h.hide a) [("x", some (.ref a)), ("n", none), ("i", i)] [(a, .list (hfy lt (fun x y => !lt y x) (xs.length / 2) xs))] h') ?_ ?_
  · intro S kS
    refine w_call_ty (gl_bootE G2 E (by kernel_rfl) boot_reversed (by decide +kernel) (by kernel_rfl)) (w_args_cons ?_)
    refine w_call_ty (gl_bootE G2 E (by kernel_rfl) boot_range (by decide +kernel) (by kernel_rfl)) (w_args_cons ?_)
    refine Pe.use (p := .int ((xs.length / 2 : Nat) : Int)) (by rw [← e2]; tm_at "pe") fun v hv => ?_
    refine w_args_nil (w_range1 Z₂ hv fun r h₃ Z₃ => ?_)
    refine w_args_nil (w_reversed Z₃ (Z₃.get (by repeat' with_reducible constructor)) (by exact Int.natCast_nonneg _) (by lia) fun it h₄ Z₄ => ?_)
    refine w_iter_rit (Z₄.get .here) ?_
    have Z₅ : St env (h.hide a) [("x", some (.ref a)), ("n", none), ("i", none)] [(it, ritO (((xs.length / 2 : Nat) : Int) - 1) ((xs.length / 2 : Nat) : Int) (-1)), (a, .list xs)] h₄ := (Z₄.swap.drop).wk (.keep (.forget (.keep .nil)))
    clear Z₄ Z₃ Z₂ Z
    as_aux_lemma =>
    refine w_forN (xs.length / 2) (fun i h' => ∃ (ys : List PV) (q : Option PV), ys.length = xs.length ∧ (∀ p ∈ ys, p ∈ xs) ∧ hfy lt (fun x y => !lt y x) (xs.length / 2 - i) ys = hfy lt (fun x y => !lt y x) (xs.length / 2) xs ∧
      St env (h.hide a) [("x", some (.ref a)), ("n", none), ("i", q)] [(it, ritO (((xs.length / 2 : Nat) : Int) - 1 - i) (((xs.length / 2 : Nat) : Int) - i) (-1)), (a, .list ys)] h') ?_ ?_ ⟨xs, none, rfl, fun _ m => m, rfl, by simpa using Z₅⟩
    · rintro i h₅ hi ⟨ys, q, hyl, hym, hh, Z⟩ R kR
      refine next_range Z (by repeat' with_reducible constructor) (by repeat' with_reducible constructor) (by lia) fun v h₆ hv Z₆ => ⟨v, rfl, w_store Z₆ hv (by repeat' with_reducible constructor) fun h₇ Z₇ => ?_⟩
      have G7 : Gd (hd.heap_39 P) h₇ := G.keeps Z₇.keep
      refine x_call (gl_topE (v := .ref 175) G7 E (by kernel_rfl) (by kernel_rfl)) (G7.fn (f := 175) (by kernel_rfl)) (ps_cons (by tm_at "pe") (ps_cons (by tm_at "pe") ps_nil)) rfl (fun vs hvs => ?_) E.inter
      have ep : ((xs.length / 2 : Nat) : Int) - 1 - i = ((xs.length / 2 - 1 - i : Nat) : Int) := by lia
      rw [ep] at hvs
      have kh : Keeps (h.hide a) (h₇.hide a) := Z₇.keepHide (.there .here)
      refine siftup_max_spec (pos := xs.length / 2 - 1 - i) (lt := lt) (xs := ys) (n := n) hR (G.keeps kh) (Z₇.get (.there .here)) (by lia) (by lia) (fun q hq r hr A' h' rm kp => oc q (hym q hq) r (hym r hr) A' h' rm (kh.trans kp)) hvs (fun h₈ k8 o8 => ?_)
      have Z₈ := Z₇.turned (.there .here) k8 o8
      rw [show ((xs.length / 2 : Nat) : Int) - 1 - i + -1 = ((xs.length / 2 : Nat) : Int) - 1 - ((i + 1 : Nat) : Int) by lia, show ((xs.length / 2 : Nat) : Int) - i - 1 = ((xs.length / 2 : Nat) : Int) - ((i + 1 : Nat) : Int) by lia] at Z₈
      refine ⟨(fun _ z => nomatch z), x_nil (kR <| lp_next ⟨siftup lt (fun x y => !lt y x) ys (xs.length / 2 - 1 - i), _, ?_, ?_, ?_, Z₈⟩)⟩
      · rw [siftup_length]; exact hyl
      · intro p hp
        exact hym p ((siftup_perm _ _ (by lia)).mem_iff.mp hp)
      · rw [← hh]
        obtain ⟨m, hm⟩ : ∃ m, xs.length / 2 - i = m + 1 := ⟨xs.length / 2 - i - 1, by lia⟩
        rw [hm, show xs.length / 2 - (i + 1) = m by lia, show xs.length / 2 - 1 - i = m by lia]
        rfl
    · rintro h₅ ⟨ys, q, hyl, hym, hh, Z⟩
      refine next_range_end hR.h Z (by lia) fun h₆ Z₆ => ⟨rfl, kS <| sx_next ⟨q, ?_⟩⟩
      rw [Nat.sub_self] at hh
      rw [← hh]; exact Z₆
  · rintro h₃ ⟨i, Z₃⟩
    exact x_nil (fq_next (k h₃ Z₃.keep (Z₃.get .here)))

theorem heapify_spec {C : Cx} {A : Around} {h : Heap} {P : Params} {n : Nat} {us : List Value} {a : Addr} {xs : List PV} {lt : PV → PV → Bool} {Q : Value → Heap → Prop} (hA : Rm (n + 3) A) (G : Gd (hd.heap_39 P) (h.hide a))
    (o : Own h a (.list xs)) (hz : xs.length < 2 ^ 31) (oc : ∀ p ∈ xs, ∀ q ∈ xs, ∀ A' h', Rm n A' → Keeps (h.hide a) h' → Cm C A' h' .Lt p q (lt p q))
    (hu : us.map pv = [.ref a])
    (k : ∀ h', Keeps (h.hide a) h' → Own h' a (.list (hfy (fun p x => lt x p) (fun x y => !lt x y) (xs.length / 2) xs)) → Q .none h') :
    Cp C A (.call (.ref 133) ⟨us, []⟩) (fun fl h' => ∃ v, fl = .ret v ∧ Q v h') h := by
  have F := Fn.mk (K := hd.heap_39 P) (f := 133) (xs := ["x"]) (ys := ["n", "i"]) (by kernel_rfl) (fn_body (by k_is) (by exact rfl)) (by kernel_rfl) (by kernel_rfl) (fun _ => LocK.of (by kernel_rfl) (by kernel_rfl) (by decide +kernel)) (by kernel_rfl) (by kernel_rfl) (by kernel_rfl)
  obtain ⟨u1, rfl⟩ := args1 hu
  have G0 : Gd (hd.heap_39 P) h := G.keeps (keeps_hide h a)
  refine fn_enter (l := [("x", some (.ref a)), ("n", none), ("i", none)]) (vs := [u1]) F hA G0 hu rfl (Bd.of_eq (by kernel_rfl)) rfl fun env h₁ E Z G' hR => ?_
  replace Z := Z.open o
  refine x_assign Z (e_len (gl_bootE G' E (by kernel_rfl) boot_len (by decide +kernel) (by kernel_rfl)) (by tm_at "pe") (Z.get (by repeat' with_reducible constructor)) (by exact Nat.lt_of_lt_of_le (by assumption) (by decide))) (by repeat' with_reducible constructor) fun h₂ Z₂ => ?_
  have G2 : Gd (hd.heap_39 P) h₂ := G.keeps Z₂.keep
  have e2 : (xs.length : Int).fdiv 2 = ((xs.length / 2 : Nat) : Int) := by rw [Int.fdiv_eq_ediv_of_nonneg _ (by decide)]; lia
  refine x_forX (fun h' => ∃ i, St env (h.hide a) [("x", some (.ref a)), ("n", none), ("i", i)] [(a, .list (hfy (fun p x => lt x p) (fun x y => !lt x y) (xs.length / 2) xs))] h') ?_ ?_
  · intro S kS
    refine w_call_ty (gl_bootE G2 E (by kernel_rfl) boot_reversed (by decide +kernel) (by kernel_rfl)) (w_args_cons ?_)
    refine w_call_ty (gl_bootE G2 E (by kernel_rfl) boot_range (by decide +kernel) (by kernel_rfl)) (w_args_cons ?_)
    refine Pe.use (p := .int ((xs.length / 2 : Nat) : Int)) (by rw [← e2]; tm_at "pe") fun v hv => ?_
    refine w_args_nil (w_range1 Z₂ hv fun r h₃ Z₃ => ?_)
    refine w_args_nil (w_reversed Z₃ (Z₃.get (by repeat' with_reducible constructor)) (by exact Int.natCast_nonneg _) (by lia) fun it h₄ Z₄ => ?_)
    refine w_iter_rit (Z₄.get .here) ?_
    have Z₅ : St env (h.hide a) [("x", some (.ref a)), ("n", none), ("i", none)] [(it, ritO (((xs.length / 2 : Nat) : Int) - 1) ((xs.length / 2 : Nat) : Int) (-1)), (a, .list xs)] h₄ := (Z₄.swap.drop).wk (.keep (.forget (.keep .nil)))
    clear Z₄ Z₃ Z₂ Z
    as_aux_lemma =>
    refine w_forN (xs.length / 2) (fun i h' => ∃ (ys : List PV) (q : Option PV), ys.length = xs.length ∧ (∀ p ∈ ys, p ∈ xs) ∧ hfy (fun p x => lt x p) (fun x y => !lt x y) (xs.length / 2 - i) ys = hfy (fun p x => lt x p) (fun x y => !lt x y) (xs.length / 2) xs ∧
      St env (h.hide a) [("x", some (.ref a)), ("n", none), ("i", q)] [(it, ritO (((xs.length / 2 : Nat) : Int) - 1 - i) (((xs.length / 2 : Nat) : Int) - i) (-1)), (a, .list ys)] h') ?_ ?_ ⟨xs, none, rfl, fun _ m => m, rfl, by simpa using Z₅⟩
    · rintro i h₅ hi ⟨ys, q, hyl, hym, hh, Z⟩ R kR
      refine next_range Z (by repeat' with_reducible constructor) (by repeat' with_reducible constructor) (by lia) fun v h₆ hv Z₆ => ⟨v, rfl, w_store Z₆ hv (by repeat' with_reducible constructor) fun h₇ Z₇ => ?_⟩
      have G7 : Gd (hd.heap_39 P) h₇ := G.keeps Z₇.keep
      refine x_call (gl_topE (v := .ref 161) G7 E (by kernel_rfl) (by kernel_rfl)) (G7.fn (f := 161) (by kernel_rfl)) (ps_cons (by tm_at "pe") (ps_cons (by tm_at "pe") ps_nil)) rfl (fun vs hvs => ?_) E.inter
      have ep : ((xs.length / 2 : Nat) : Int) - 1 - i = ((xs.length / 2 - 1 - i : Nat) : Int) := by lia
      rw [ep] at hvs
      have kh : Keeps (h.hide a) (h₇.hide a) := Z₇.keepHide (.there .here)
      refine siftup_spec (pos := xs.length / 2 - 1 - i) (lt := lt) (xs := ys) (n := n) hR (G.keeps kh) (Z₇.get (.there .here)) (by lia) (by lia) (fun q hq r hr A' h' rm kp => oc q (hym q hq) r (hym r hr) A' h' rm (kh.trans kp)) hvs (fun h₈ k8 o8 => ?_)
      have Z₈ := Z₇.turned (.there .here) k8 o8
      rw [show ((xs.length / 2 : Nat) : Int) - 1 - i + -1 = ((xs.length / 2 : Nat) : Int) - 1 - ((i + 1 : Nat) : Int) by lia, show ((xs.length / 2 : Nat) : Int) - i - 1 = ((xs.length / 2 : Nat) : Int) - ((i + 1 : Nat) : Int) by lia] at Z₈
      refine ⟨(fun _ z => nomatch z), x_nil (kR <| lp_next ⟨siftup (fun p x => lt x p) (fun x y => !lt x y) ys (xs.length / 2 - 1 - i), _, ?_, ?_, ?_, Z₈⟩)⟩
      · rw [siftup_length]; exact hyl
      · intro p hp
        exact hym p ((siftup_perm _ _ (by lia)).mem_iff.mp hp)
      · rw [← hh]
        obtain ⟨m, hm⟩ : ∃ m, xs.length / 2 - i = m + 1 := ⟨xs.length / 2 - i - 1, by lia⟩
        rw [hm, show xs.length / 2 - (i + 1) = m by lia, show xs.length / 2 - 1 - i = m by lia]
        rfl
    · rintro h₅ ⟨ys, q, hyl, hym, hh, Z⟩
      refine next_range_end hR.h Z (by lia) fun h₆ Z₆ => ⟨rfl, kS <| sx_next ⟨q, ?_⟩⟩
      rw [Nat.sub_self] at hh
      rw [← hh]; exact Z₆
  · rintro h₃ ⟨i, Z₃⟩
    exact x_nil (fq_next (k h₃ Z₃.keep (Z₃.get .here)))

theorem heapreplace_max_spec {C : Cx} {A : Around} {h : Heap} {P : Params} {n : Nat} {us : List Value} {a : Addr} {y : PV} {xs : List PV} {lt : PV → PV → Bool} {Q : Value → Heap → Prop} (hA : Rm (n + 3) A) (G : Gd (hd.heap_39 P) (h.hide a))
    (o : Own h a (.list xs)) (h0 : 0 < xs.length) (hz : xs.length < 2 ^ 31) (oc : ∀ p ∈ y :: xs, ∀ q ∈ y :: xs, ∀ A' h', Rm n A' → Keeps (h.hide a) h' → Cm C A' h' .Lt p q (lt p q))
    (hu : us.map pv = [.ref a, y])
    (k : ∀ v h', pv v = xs.getD 0 .none → Keeps (h.hide a) h' → Own h' a (.list (siftup lt (fun x y => !lt y x) (xs.set 0 y) 0)) → Q v h') :
    Cp C A (.call (.ref 140) ⟨us, []⟩) (fun fl h' => ∃ v, fl = .ret v ∧ Q v h') h := by
  have F := Fn.mk (K := hd.heap_39 P) (f := 140) (xs := ["heap", "item"]) (ys := ["returnitem"]) (by kernel_rfl) (fn_body (by k_is) (by exact rfl)) (by kernel_rfl) (by kernel_rfl) (fun _ => LocK.of (by kernel_rfl) (by kernel_rfl) (by decide +kernel)) (by kernel_rfl) (by kernel_rfl) (by kernel_rfl)
  obtain ⟨u1, u2, rfl⟩ := args2 hu
  have G0 : Gd (hd.heap_39 P) h := G.keeps (keeps_hide h a)
  refine fn_enter (l := [("heap", some (.ref a)), ("item", some y), ("returnitem", none)]) (vs := [u1, u2]) F hA G0 hu rfl (Bd.of_eq (by kernel_rfl)) rfl fun env h₁ E Z G' hR => ?_
  replace Z := Z.open o
  refine x_assign Z (e_item (by tm_at "pe") (by tm_at "pe") (Z.get (by repeat' with_reducible constructor)) (by decide) (by decide) (getD_at0 h0)) (by repeat' with_reducible constructor) fun h₂ Z₂ => ?_
  refine x_setitem Z₂ (by tm_at "pe") (by tm_at "pe") (by tm_at "pe") (by repeat' with_reducible constructor) (by repeat' with_reducible constructor) (by decide) (by lia) (by decide) fun h₃ Z₃ => ?_
  have G3 : Gd (hd.heap_39 P) h₃ := G.keeps Z₃.keep
  refine x_call (gl_topE (v := .ref 175) G3 E (by kernel_rfl) (by kernel_rfl)) (G3.fn (f := 175) (by kernel_rfl)) (ps_cons (by tm_at "pe") (ps_cons (by tm_at "pe") ps_nil)) rfl (fun vs hvs => ?_) E.inter
  have hset : ∀ q ∈ xs.set 0 y, q ∈ y :: xs := fun q hq => by
    rcases List.mem_or_eq_of_mem_set hq with e | e
    · exact .tail _ e
    · rw [e]; exact .head _
  have kh : Keeps (h.hide a) (h₃.hide a) := Z₃.keepHide .here
  refine siftup_max_spec (pos := 0) (lt := lt) (xs := xs.set 0 y) (n := n) hR (G.keeps kh) (Z₃.get .here) (by simpa using h0) (by simpa using hz) (fun q hq r hr A' h' rm kp => oc q (hset q hq) r (hset r hr) A' h' rm (kh.trans kp)) hvs (fun h₄ k4 o4 => ?_)
  refine ⟨(fun _ z => nomatch z), ?_⟩
  have Z₅ := Z₃.turned .here k4 o4
  refine x_ret (by tm_at "pe") fun v hv => ?_
  ((repeat with_reducible refine sq_ret ?_); with_reducible refine fq_ret ?_)
  exact k v h₄ hv Z₅.keep o4

theorem heapreplace_spec {C : Cx} {A : Around} {h : Heap} {P : Params} {n : Nat} {us : List Value} {a : Addr} {y : PV} {xs : List PV} {lt : PV → PV → Bool} {Q : Value → Heap → Prop} (hA : Rm (n + 3) A) (G : Gd (hd.heap_39 P) (h.hide a))
    (o : Own h a (.list xs)) (h0 : 0 < xs.length) (hz : xs.length < 2 ^ 31) (oc : ∀ p ∈ y :: xs, ∀ q ∈ y :: xs, ∀ A' h', Rm n A' → Keeps (h.hide a) h' → Cm C A' h' .Lt p q (lt p q))
    (hu : us.map pv = [.ref a, y])
    (k : ∀ v h', pv v = xs.getD 0 .none → Keeps (h.hide a) h' → Own h' a (.list (siftup (fun p x => lt x p) (fun x y => !lt x y) (xs.set 0 y) 0)) → Q v h') :
    Cp C A (.call (.ref 126) ⟨us, []⟩) (fun fl h' => ∃ v, fl = .ret v ∧ Q v h') h := by
  have F := Fn.mk (K := hd.heap_39 P) (f := 126) (xs := ["heap", "item"]) (ys := ["returnitem"]) (by kernel_rfl) (fn_body (by k_is) (by exact rfl)) (by kernel_rfl) (by kernel_rfl) (fun _ => LocK.of (by kernel_rfl) (by kernel_rfl) (by decide +kernel)) (by kernel_rfl) (by kernel_rfl) (by kernel_rfl)
  obtain ⟨u1, u2, rfl⟩ := args2 hu
  have G0 : Gd (hd.heap_39 P) h := G.keeps (keeps_hide h a)
  refine fn_enter (l := [("heap", some (.ref a)), ("item", some y), ("returnitem", none)]) (vs := [u1, u2]) F hA G0 hu rfl (Bd.of_eq (by kernel_rfl)) rfl fun env h₁ E Z G' hR => ?_
  replace Z := Z.open o
  refine x_assign Z (e_item (by tm_at "pe") (by tm_at "pe") (Z.get (by repeat' with_reducible constructor)) (by decide) (by decide) (getD_at0 h0)) (by repeat' with_reducible constructor) fun h₂ Z₂ => ?_
  refine x_setitem Z₂ (by tm_at "pe") (by tm_at "pe") (by tm_at "pe") (by repeat' with_reducible constructor) (by repeat' with_reducible constructor) (by decide) (by lia) (by decide) fun h₃ Z₃ => ?_
  have G3 : Gd (hd.heap_39 P) h₃ := G.keeps Z₃.keep
  refine x_call (gl_topE (v := .ref 161) G3 E (by kernel_rfl) (by kernel_rfl)) (G3.fn (f := 161) (by kernel_rfl)) (ps_cons (by tm_at "pe") (ps_cons (by tm_at "pe") ps_nil)) rfl (fun vs hvs => ?_) E.inter
  have hset : ∀ q ∈ xs.set 0 y, q ∈ y :: xs := fun q hq => by
    rcases List.mem_or_eq_of_mem_set hq with e | e
    · exact .tail _ e
    · rw [e]; exact .head _
  have kh : Keeps (h.hide a) (h₃.hide a) := Z₃.keepHide .here
  refine siftup_spec (pos := 0) (lt := lt) (xs := xs.set 0 y) (n := n) hR (G.keeps kh) (Z₃.get .here) (by simpa using h0) (by simpa using hz) (fun q hq r hr A' h' rm kp => oc q (hset q hq) r (hset r hr) A' h' rm (kh.trans kp)) hvs (fun h₄ k4 o4 => ?_)
  refine ⟨(fun _ z => nomatch z), ?_⟩
  have Z₅ := Z₃.turned .here k4 o4
  refine x_ret (by tm_at "pe") fun v hv => ?_
  ((repeat with_reducible refine sq_ret ?_); with_reducible refine fq_ret ?_)
  exact k v h₄ hv Z₅.keep o4


set_option maxHeartbeats 400000
theorem St.neB {C : Cx} {h h₀ : Heap} {env : Env} {l : List (Str × Option PV)} {cs : List (Addr × AO)} (Z : St env h₀ l cs h) {a b : Addr} {x y : AO} (o : Own h₀ a x) (m : (b, y) ∈ cs) : a ≠ b := fun e => by
  obtain ⟨ob, eo, _⟩ := o
  have := Z.fresh _ m
  rw [show ((b, y) : Addr × AO).1 = a from e.symm, eo] at this
  cases this
theorem perm8 {α : Type} (x a b c d e f g i : α) (r : List α) : (x :: a :: b :: c :: d :: e :: f :: g :: i :: r).Perm (a :: b :: c :: d :: e :: f :: g :: i :: x :: r) :=
  (List.perm_middle (l₁ := [a, b, c, d, e, f, g, i]) (l₂ := r) (a := x)).symm
theorem memTr8 {α β : Type} {f : α → β} {y : α} {r : List α} {a b c d e f1 g i : β} (m : y ∈ r) : f y ∈ a :: b :: c :: d :: e :: f1 :: g :: i :: r.map f := by
  iterate 8 refine List.mem_cons_of_mem _ ?_
  exact List.mem_map.mpr ⟨y, m, rfl⟩
theorem memTr3 {α β : Type} {f : α → β} {y : α} {r : List α} {a b c : β} (m : y ∈ r) : f y ∈ a :: b :: c :: r.map f := by
  iterate 3 refine List.mem_cons_of_mem _ ?_
  exact List.mem_map.mpr ⟨y, m, rfl⟩
theorem memTr5 {α β : Type} {f : α → β} {y : α} {r : List α} {a b c d e : β} (m : y ∈ r) : f y ∈ a :: b :: c :: d :: e :: r.map f := by
  iterate 5 refine List.mem_cons_of_mem _ ?_
  exact List.mem_map.mpr ⟨y, m, rfl⟩
theorem perm3 {α : Type} (x a b c : α) (r : List α) : (x :: a :: b :: c :: r).Perm (a :: b :: c :: x :: r) :=
  (List.perm_middle (l₁ := [a, b, c]) (l₂ := r) (a := x)).symm
theorem St.ownHide {h h₀ : Heap} {env : Env} {l : List (Str × Option PV)} {cs : List (Addr × AO)} {a : Addr} {x : AO} (Z : St env h₀ l ((a, x) :: cs) h) {p : Addr × AO} (m : p ∈ cs) : Own (h.hide a) p.1 p.2 :=
  own_hide (Z.own p (.tail _ m)) fun e => (List.nodup_cons.mp (List.nodup_cons.mp Z.nd).2).1 (List.mem_map.mpr ⟨p, m, e⟩)
noncomputable def kfOf (kv : PV → PV) (es : List Int) (i : Nat) : PV := kv (.int (elAt es i))
noncomputable def klOf (b : Bool) (lt : PV → PV → Bool) (kv : PV → PV) (es : List Int) (i j : Nat) : Bool := ltb b lt (kfOf kv es i) (kfOf kv es j)
theorem nsmallest_spec {C : Cx} {A : Around} {h : Heap} {P : Params} {m cnt : Nat} {us : List Value} {a kf : Addr} {es : List Int} {kv : PV → PV} {ks : PV → Prop} {e lt : PV → PV → Bool} {T : Value} {Q : Value → Heap → Prop} (hA : Rm (m + 5) A) (G : Gd (hd.heap_39 P) h)
    (hu : us.map pv = [.int cnt, .ref a]) (o : Own h a (.list (es.map PV.int))) (hf : PySem.W.FnAt kf h) (hk : KeyOk C m h (.ref kf) (es.map PV.int) kv) (X : KeyTy C m h ks e lt T) (hks : ∀ x ∈ es, ks (kv (.int x)))
    (h1 : 1 ≤ cnt) (h2 : cnt < es.length) (h3 : es.length < 64)
    (k : ∀ r h', New h h' [(r, .list ((sortOut false lt kv (es.map PV.int)).take cnt))] → Q (.ref r) h') :
    Cp C A (.call (.ref 181) ⟨us, [("key", .ref kf)]⟩) (fun fl h' => ∃ v, fl = .ret v ∧ Q v h') h := by
  have FF := FnC.mk (K := hd.heap_39 P) (f := 181) (xs := ["n", "iterable", "key"]) (ks := ["n", "iterable", "it", "sentinel", "result", "size", "elem", "top", "order", "_heapreplace", "_order", "k", "_elem"]) (zs := ["key"]) (by kernel_rfl) (fn_body (by k_is) (by exact rfl)) (by kernel_rfl) (by kernel_rfl) (fun _ => LocK.of (by kernel_rfl) (by kernel_rfl) (by decide +kernel)) (by decide +kernel) (by kernel_rfl) (by decide +kernel) (by kernel_rfl) (by kernel_rfl) (by kernel_rfl) (by kernel_rfl)
  obtain ⟨u1, u2, rfl⟩ := args2 hu
  have hT : (hd.heap_39 P).lookup (176 : Addr) = some ({ cls := .type "tuple", data := .seq #[.none] 0 } : Obj) := (by kernel_rfl)
  have hu' : [u1, u2, .ref kf].map pv = [.int cnt, .ref a, .ref kf] := by
    rw [show [u1, u2, (Value.ref kf)] = [u1, u2] ++ [.ref kf] from rfl, List.map_append, hu]; rfl
  refine fnC_enter (l := [("n", some (.int cnt)), ("iterable", some (.ref a)), ("it", none), ("sentinel", none), ("result", none), ("size", none), ("elem", none), ("top", none), ("order", none), ("_heapreplace", none), ("_order", none), ("k", none), ("_elem", none)]) (cs := fun L => [(L + 1, celO (some (.ref kf)))]) (vs := [u1, u2, .ref kf]) FF hA G hu' rfl (Bd.load (G.k _ _ hT) (by kernel_rfl) (by kernel_rfl)) (by kernel_rfl) (fun L => by kernel_rfl) fun L h₁ Z G' hR => ?_
  have hne : 0 < es.length := by lia
  have hK : ∀ i, ks (kv (.int (elAt es i))) := fun i => hks _ (elAt_mem hne i)
  have hKf : ∀ i, ks (kfOf kv es i) := hK
  have W := key_wo X hK false
  have ol := Own.keeps Z.keep o
  have hlen : (es.map PV.int).length = es.length := List.length_map ..
  refine x_if (t_cmp (by tm_at "pe") (by tm_at "pe") (by repeat' (show (_ : Prop); first | with_reducible refine' CmI.cm ?_ | with_reducible constructor | rfl)) rfl) (fun e1 => ?_) (fun e1 => ?_)
  · have hc : cnt = 1 := by have : (cnt : Int) = 1 := by simpa using e1
                            lia
    subst hc
    refine x_assign' (w_call_bi (gl_boot G' (by kernel_rfl) boot_iter (by decide +kernel) (by kernel_rfl) (by kernel_rfl) (by kernel_rfl) (by kernel_rfl)) (w_args_cons (Pe.useR (by tm_at "pe") (w_args_nil ?_))))
    refine w_iterCall (w_iter_list Z ol fun it h₂ Z₂ => w_store (p := .ref it) Z₂ rfl (by repeat' with_reducible constructor) fun h₃ Z₃ => ?_)
    have G3 := G.keeps Z₃.keep
    refine x_assign' (w_call_ty0 (gl_boot G3 (by kernel_rfl) boot_object (by decide +kernel) (by kernel_rfl) (by kernel_rfl) (by kernel_rfl) (by kernel_rfl)) (w_object Z₃ fun st h₄ Z₄ => w_store (p := .ref st) Z₄ rfl (by repeat' with_reducible constructor) fun h₅ Z₅ => ?_))
    have G5 := G.keeps Z₅.keep
    refine x_assign' (w_call_bi_kw (gl_boot G5 (by kernel_rfl) boot_min (by decide +kernel) (by kernel_rfl) (by kernel_rfl) (by kernel_rfl) (by kernel_rfl)) (w_args_cons (Pe.useR (by tm_at "pe") (w_args_nil ?_))))
    refine w_kws_cons (Pe.use (p := .ref st) (by tm_at "pe") fun v2 hv2 => w_kws_cons (Pe.use (p := .ref kf) (e_cell (by kernel_rfl) (by kernel_rfl) (by kernel_rfl) (Z₅.get (by repeat' with_reducible constructor))) fun v3 hv3 => w_kws_nil ?_))
    obtain rfl := pv_ref hv2
    obtain rfl := pv_ref hv3
    obtain ⟨x, r, rfl⟩ : ∃ x r, es = x :: r := by
      cases es with
      | nil => simp at hne
      | cons x r => exact ⟨x, r, rfl⟩
    have hmin := min_sorted (b := false) (lt := lt) (kv := kv) (p := .int x) (r := r.map PV.int) W (fun i j hi hj => by
      have hi : i < (x :: r).length := by simpa using hi
      have hj : j < (x :: r).length := by simpa using hj
      have := elAt_pv hi
      have := elAt_pv hj
      simp only [List.map_cons] at *
      simp_all)
    obtain ⟨mi, hmi⟩ : ∃ mi : Int, minGo (fun p q => lt (kv p) (kv q)) (.int x) (r.map PV.int) = .int mi := by
      have : ∀ (r : List Int) (x : Int), ∃ mi : Int, minGo (fun p q => lt (kv p) (kv q)) (.int x) (r.map PV.int) = .int mi := by
        intro r
        induction r with
        | nil => intro x; exact ⟨x, rfl⟩
        | cons y r ih => intro x; rw [List.map_cons, minGo_c]; split <;> exact ih _
      exact this r x
    refine w_min_dk (lt := lt) (n := m) (hR.less (by lia)) Z₅.swap o rfl hk (fun A h r kp p hp q hq => ?_) fun v h₆ Z₆ hv => ?_
    · obtain ⟨p1, hp1, rfl⟩ := List.mem_map.mp hp
      obtain ⟨p2, hp2, rfl⟩ := List.mem_map.mp hp1
      obtain ⟨q1, hq1, rfl⟩ := List.mem_map.mp hq
      obtain ⟨q2, hq2, rfl⟩ := List.mem_map.mp hq1
      exact X.cLt A h r kp _ _ (hks p2 hp2) (hks q2 hq2)
    · rw [hmi] at hv
      refine w_store Z₆ hv (by repeat' with_reducible constructor) fun h₇ Z₇ => ?_
      refine x_ret' (w_ifExp (w_testPt (t_cmp (by tm_at "pe") (by tm_at "pe") c_is_int_ref rfl) ?_))
      first | refine ite_f ?_ | refine exs_f ?_ | refine ev_f ?_ | rw [if_neg Bool.false_ne_true]
      refine w_listP (ps := [.int mi]) Z₇ (ps_cons (by tm_at "pe") ps_nil) fun r0 h₈ Z₈ => ?_
      ((repeat with_reducible refine sq_ret ?_); with_reducible refine fq_ret ?_)
      refine k r0 h₈ ?_
      have hmin' : [minGo (fun p q => lt (kv p) (kv q)) (.int x) (r.map PV.int)] = (sortOut false lt kv (.int x :: r.map PV.int)).take 1 := hmin
      rw [show (x :: r).map PV.int = .int x :: r.map PV.int from rfl, ← hmin', hmi]
      exact Z₈.new.sub (List.IsPrefix.sublist ⟨_, rfl⟩)
  · have hc1 : cnt ≠ 1 := by rintro rfl; simp at e1
    have hc2 : 2 ≤ cnt := by lia
    refine x_done (x_try ?_)
    refine x_assign Z (e_len (gl_boot G' (by kernel_rfl) boot_len (by decide +kernel) (by kernel_rfl) (by kernel_rfl) (by kernel_rfl) (by kernel_rfl)) (by tm_at "pe") ol (by lia)) (by repeat' with_reducible constructor) fun h₂ Z₂ => x_done ?_
    rw [hlen] at Z₂
    refine x_if (b := false) (t_cmp (by tm_at "pe") (by tm_at "pe") (by repeat' (show (_ : Prop); first | with_reducible refine' CmI.cm ?_ | with_reducible constructor | rfl)) (by simp; assumption)) (fun e1 => absurd e1 Bool.false_ne_true) (fun _ => ?_)
    refine x_done (x_done ?_)
    refine x_if (b := false) (t_cmp (e_cell (by kernel_rfl) (by kernel_rfl) (by kernel_rfl) (Z₂.get (by repeat' with_reducible constructor))) (by tm_at "pe") (by repeat' (show (_ : Prop); first | with_reducible refine' CmI.cm ?_ | with_reducible constructor | rfl)) rfl) (fun e1 => absurd e1 Bool.false_ne_true) (fun _ => x_done ?_)
    have G2 := G.keeps Z₂.keep
    refine x_assign' (w_call_bi (gl_boot G2 (by kernel_rfl) boot_iter (by decide +kernel) (by kernel_rfl) (by kernel_rfl) (by kernel_rfl) (by kernel_rfl)) (w_args_cons (Pe.useR (by tm_at "pe") (w_args_nil ?_))))
    refine w_iterCall (w_iter_list Z₂ (Own.keeps Z₂.keep o) fun it h₃ Z₃ => w_store (p := .ref it) Z₃ rfl (by repeat' with_reducible constructor) fun h₄ Z₄ => ?_)
    clear Z Z₂ Z₃ G2 ol G'
    as_aux_lemma =>
    have G4 := G.keeps Z₄.keep
    refine x_assignComp (h₀ := h) (l := [("n", some (.int cnt)), ("iterable", some (.ref a)), ("it", some (.ref it)), ("sentinel", none), ("result", none), ("size", some (.int es.length)), ("elem", none), ("top", none), ("order", none), ("_heapreplace", none), ("_order", none), ("k", none), ("_elem", none)]) (cl := [("key", L + 1)]) (ks := ["i", "elem"]) (by kernel_rfl) rfl (by decide +kernel) (by decide +kernel) (fun _ => LocK.of (by kernel_rfl) (by kernel_rfl) (by decide +kernel)) ?_ (by kernel_rfl)
    refine w_call_ty (gl_boot G4 (by kernel_rfl) boot_zip (by decide +kernel) (by kernel_rfl) (by kernel_rfl) (by kernel_rfl) (by kernel_rfl)) (w_args_cons ?_)
    refine w_call_ty (gl_boot G4 (by kernel_rfl) boot_range (by decide +kernel) (by kernel_rfl) (by kernel_rfl) (by kernel_rfl) (by kernel_rfl)) (w_args_cons (Pe.use (p := .int cnt) (by tm_at "pe") fun v hv => w_args_nil (w_range1 Z₄ hv fun r h₅ Z₅ => w_args_cons (Pe.useR (by tm_at "pe") (w_args_nil ?_)))))
    have hsz : Builtin.Range.rangeSize 0 (cnt : Int) 1 = (cnt : Int) := rangeSize_up _ (by exact Int.natCast_nonneg _)
    refine w_zip Z₅ (Z₅.get .here) (Z₅.get (by repeat' with_reducible constructor)) (rng_small (by decide) (by lia) (by decide) (by rw [hsz]; lia)) fun z TI TO i1 h₆ Z₆ => w_iter_zip (Z₆.get .here) ⟨_, Z₆.sub ((((((List.Sublist.refl _).cons _).cons_cons _).cons_cons _).cons_cons _).cons_cons _), fun acc L' oL h₇ Z₇ => ?_⟩
    rw [hsz] at Z₇
    clear Z₆ Z₅ Z₄ G4
    as_aux_lemma =>
    have Zq : St _ h _ ((z, zipO TI TO .none) :: (TO, pairO) :: (TI, pairX (.ref i1) (.ref it)) :: (i1, ritO ((0 : Nat) : Int) ((cnt - 0 : Nat) : Int) 1) :: (it, lit a 0) :: ((callEnvC (fdOf (hd.heap_39 P) 181) L 181).locals, .raw oL) :: (acc, .list []) :: (L + 1, celO (some (.ref kf))) :: ([] : List Tr).map (trCell (kfOf kv es) (elAt es))) h₇ :=
      Z₇.perm ((List.perm_append_comm (l₁ := [_, _]) (l₂ := [_, _, _, _, _])).append_right [_])
    refine cp_compStart (cp_compN cnt (fun i h' => ∃ trs ps, HI false (klOf false lt kv es) i i i trs ps ∧ ps.map (ixOf trs) = List.range i ∧ St _ h [("i", none), ("elem", none)]
      ((z, zipO TI TO .none) :: (TO, pairO) :: (TI, pairX (.ref i1) (.ref it)) :: (i1, ritO i ((cnt - i : Nat) : Int) 1) :: (it, lit a i) :: ((callEnvC (fdOf (hd.heap_39 P) 181) L 181).locals, .raw oL) :: (acc, .list ps) :: (L + 1, celO (some (.ref kf))) :: trs.map (trCell (kfOf kv es) (elAt es))) h') ?_ ?_ 0 h₇ (Nat.zero_le _) ⟨[], [], HI.start, rfl, Zq⟩) (w_iter_zip (Z₇.get (by repeat' with_reducible constructor)) ⟨rfl, rfl⟩)
    · rintro i h₈ hi ⟨trs, ps, H, hr, Z⟩ J kJ
      have hie : i < es.length := by lia
      refine next_zip Z (by lia) (Own.keeps Z.keep o) (p := .int (elAt es i)) (by rw [List.getElem?_map, elAt_lt hie]; rfl) ⟨Z.neB (C := C) o (.head _), Z.neB (C := C) o (.tail _ (.head _)), Z.neB (C := C) o (.tail _ (.tail _ (.tail _ (.head _)))), Z.neB (C := C) o (.tail _ (.tail _ (.tail _ (.tail _ (.head _)))))⟩ fun T h₉ Z₉ => ⟨_, rfl, ?_⟩
      refine w_ownedZip Z₉ (by repeat' with_reducible constructor) (by repeat' with_reducible constructor) fun h₁₀ Z₁₀ => ?_
      refine w_unpack2 hR.h Z₁₀ (Z₁₀.get .here) (by repeat' with_reducible constructor) (by repeat' with_reducible constructor) fun h₁₁ Z₁₁ => w_tests0 ?_
      first | refine ite_t ?_ | refine exs_t ?_ | refine ev_t ?_ | rw [if_pos rfl]
      replace Z₁₁ := Z₁₁.drop
      clear Z Z₉ Z₁₀
      as_aux_lemma =>
      refine w_Tuple (w_args_cons ?_)
      refine w_call_fnW (gl_name fun pos => e_cell (by kernel_rfl) (by kernel_rfl) (by kernel_rfl) (Z₁₁.get (by repeat' with_reducible constructor))) (FnAt.keeps hf Z₁₁.keep) (w_args_cons (Pe.use (p := .int (elAt es i)) (by tm_at "pe") fun v hv => w_args_nil ⟨FnAt.keeps hf Z₁₁.keep, ?_⟩))
      refine hk _ _ _ _ (hR.less (by exact Nat.le_add_right _ _)) Z₁₁.keep (List.mem_map.mpr ⟨_, elAt_mem hne i, rfl⟩) hv _ fun w h₁₂ kp hw => ?_
      have Z₁₂ := Z₁₁.keeps kp
      refine w_args_cons (Pe.use (p := .int i) (by tm_at "pe") fun v2 hv2 => w_args_cons (Pe.use (p := .int (elAt es i)) (by tm_at "pe") fun v3 hv3 => w_args_nil ?_))
      refine w_newTupE Z₁₂ (mp3 hw hv2 hv3) fun T2 h₁₃ Z₁₃ => ?_
      refine w_append (p := .ref T2) Z₁₃ rfl (by repeat' with_reducible constructor) (by repeat' with_reducible constructor) (by rw [H.len]; first | exact szm (by exact Nat.le_of_lt (Nat.lt_of_lt_of_le (by assumption) (by decide))) | exact sz (by lia) | (simp [sizeLine]; lia)) fun h₁₄ Z₁₄ => kJ ⟨(T2, i, (i : Int)) :: trs, ps ++ [.ref T2], ?_⟩
      have hT : T2 ∉ trs.map (·.1) := fresh_tr (K := kfOf kv es) (el := elAt es) Z₁₄ fun y hy => memTr8 hy
      obtain ⟨H', hr'⟩ := H.grow hr hT
      refine ⟨by simpa using H', hr', ?_⟩
      rw [show (i : Int) + 1 = ((i + 1 : Nat) : Int) by exact (Int.natCast_succ _).symm, show ((cnt - i : Nat) : Int) - 1 = ((cnt - (i + 1) : Nat) : Int) by lia] at Z₁₄
      exact (Z₁₄.perm (perm8 _ _ _ _ _ _ _ _ _ _)).wk (by repeat' first | with_reducible constructor | refine' Wk.keep ?_)
    · rintro h₈ ⟨trs, ps, H, hr, Z⟩
      refine next_zip_end (x5 := pairO) hR.h Z (by lia) fun h₉ Z₉ => ⟨rfl, _, _, _, _, Z₉.perm ((List.Perm.swap _ _ _).trans ((List.Perm.swap _ _ _).cons _)), (by repeat' with_reducible constructor), fun h₁₀ Z₁₀ => ?_⟩
      clear Z Z₉ Z₇
      as_aux_lemma =>
      have hpe : ps.isEmpty = false := by
        cases ps with
        | nil => have := H.len; simp at this; lia
        | cons => rfl
      refine x_if (t_not (t_list (by tm_at "pe") (Z₁₀.get .here) (by rw [H.len]; lia))) (fun e => absurd e (by simp [hpe])) (fun _ => x_done ?_)
      have G10 := G.keeps Z₁₀.keep
      have hW : WO (klOf false lt kv es) := W
      refine x_call (gl_top (v := .ref 147) G10 (by kernel_rfl) (by kernel_rfl) (by kernel_rfl) (by kernel_rfl)) (G10.fn (f := 147) (by kernel_rfl)) (ps_cons (p := .ref acc) (by tm_at "pe") ps_nil) rfl (fun vs hvs => ?_) (by kernel_rfl)
      refine heapify_max_spec (n := m + 1) (lt := RR (klOf false lt kv es) trs) (hR.less (by lia)) (G.keeps (Z₁₀.keepHide .here)) (Z₁₀.get .here) (by rw [H.len]; lia) (fun p hp q hq A' h' hA' kp => ?_) hvs fun h₁₁ kp o₁₁ => ⟨(fun _ z => nomatch z), ?_⟩
      · exact cm_heap (b := false) (ps := ps) (qs := ps) (Kf := kfOf kv es) (el := elAt es) X hA' ((Z₁₀.keepHide .here).trans kp) H hK (fun x hx => (Z₁₀.ownHide (List.mem_cons_of_mem _ (List.mem_cons_of_mem _ (List.mem_map.mpr ⟨x, hx, rfl⟩)))).keeps kp) (H.mem p hp) (H.mem q hq)
      have Z₁₁ := Z₁₀.turned .here kp o₁₁
      obtain ⟨H₁, hp₁⟩ := H.heapify hW
      clear Z₁₀ o₁₁ kp G10 hvs hpe
      as_aux_lemma =>
      have hl₁ := H₁.len
      generalize hfy (RR (klOf false lt kv es) trs) (fun x y => !RR (klOf false lt kv es) trs y x) (ps.length / 2) ps = ps₁ at *
      obtain ⟨a0, o0, e0, m0, l0⟩ := H₁.at (gd_mem (show 0 < ps₁.length by lia))
      have g0 : ps₁[(0 : Int).toNat]? = some (.ref a0) := by rw [← e0]; exact getD_at0 (by lia)
      refine x_assign Z₁₁ (p := kfOf kv es (ixOf trs (gd ps₁ 0))) (e_item_tup (e_item (by tm_at "pe") (by tm_at "pe") (Z₁₁.get .here) (by decide) (by decide) g0) (by tm_at "pe") (Z₁₁.own _ (memTr3 m0)) (by decide) (by decide) rfl) (by repeat' with_reducible constructor) fun h₁₂ Z₁₂ => ?_
      refine x_assign Z₁₂ (p := .int cnt) (by tm_at "pe") (by repeat' with_reducible constructor) fun h₁₃ Z₁₃ => ?_
      have G13 := G.keeps Z₁₃.keep
      refine x_assign Z₁₃ (p := .ref 140) (e_gl (gl_top (v := .ref 140) G13 (by kernel_rfl) (by kernel_rfl) (by kernel_rfl) (by kernel_rfl))) (by repeat' with_reducible constructor) fun h₁₄ Z₁₄ => ?_
      clear Z₁₁ Z₁₂ Z₁₃ G13
      as_aux_lemma =>
      refine x_forX (fun h' => ∃ ord trs ps, HI false (klOf false lt kv es) cnt es.length ord trs ps ∧ St (callEnvC (fdOf (hd.heap_39 P) 181) L 181) h [("n", none), ("iterable", none), ("it", none), ("sentinel", none), ("result", some (.ref acc)), ("size", none), ("elem", none), ("top", none), ("order", none), ("_heapreplace", none), ("_order", none), ("k", none), ("_elem", none)] ((acc, .list ps) :: (L + 1, celO (some (.ref kf))) :: trs.map (trCell (kfOf kv es) (elAt es))) h') ?_ ?_
      · intro S kS
        refine Pe.useR (by tm_at "pe") ?_
        refine w_iter_lit (Z₁₄.get (by repeat' with_reducible constructor)) ?_
        refine w_forN (es.length - cnt) (fun t h' => ∃ ord trs ps, HI false (klOf false lt kv es) cnt (cnt + t) ord trs ps ∧ HeapFrom (RR (klOf false lt kv es) trs) ps 0 ∧ St (callEnvC (fdOf (hd.heap_39 P) 181) L 181) h [("n", none), ("iterable", none), ("it", none), ("sentinel", none), ("result", some (.ref acc)), ("size", none), ("elem", none), ("top", some (kfOf kv es (ixOf trs (gd ps 0)))), ("order", some (.int ord)), ("_heapreplace", some (.ref 140)), ("_order", none), ("k", none), ("_elem", none)] ((acc, .list ps) :: (it, lit a (cnt + t)) :: (L + 1, celO (some (.ref kf))) :: trs.map (trCell (kfOf kv es) (elAt es))) h') ?_ ?_ ⟨cnt, trs, ps₁, H₁, hp₁, Z₁₄.wk (by repeat' first | with_reducible constructor | refine' Wk.keep ?_)⟩
        · rintro t h₁₅ ht ⟨ord, trs, ps, H, hp, Z⟩ R kR
          have hte : cnt + t < es.length := by lia
          refine next_list Z (by repeat' with_reducible constructor) (by repeat' with_reducible constructor) (Own.keeps Z.keep o) (p := .int (elAt es (cnt + t))) (by rw [List.getElem?_map, elAt_lt hte]; rfl) fun v h₁₆ hv Z₁₆ => ⟨v, rfl, w_store Z₁₆ hv (by repeat' with_reducible constructor) fun h₁₇ Z₁₇ => ?_⟩
          clear Z Z₁₆
          as_aux_lemma =>
          refine x_assign' (w_call_fnW (gl_name fun pos => e_cell (by kernel_rfl) (by kernel_rfl) (by kernel_rfl) (Z₁₇.get (by repeat' with_reducible constructor))) (FnAt.keeps hf Z₁₇.keep) (w_args_cons (Pe.use (p := .int (elAt es (cnt + t))) (by tm_at "pe") fun v hv => w_args_nil ⟨FnAt.keeps hf Z₁₇.keep, ?_⟩)))
          refine hk _ _ _ _ (hR.less (by exact Nat.le_add_right _ _)) Z₁₇.keep (List.mem_map.mpr ⟨_, elAt_mem hne _, rfl⟩) hv _ fun w h₁₈ kp hw => ?_
          refine w_store (p := kfOf kv es (cnt + t)) (Z₁₇.keeps kp) hw (by repeat' with_reducible constructor) fun h₁₉ Z₁₉ => ?_
          clear Z₁₇ kp
          as_aux_lemma =>
          refine x_if (b := klOf false lt kv es (cnt + t) (ixOf trs (gd ps 0))) (t_cmp (by tm_at "pe") (by tm_at "pe") (X.cLt _ _ (hR.less (by exact Nat.le_add_right _ _)) Z₁₉.keep _ _ (hKf _) (hKf _)) rfl) (fun e2 => ?_) (fun e2 => ?_)
          · have hpl : 0 < ps.length := by rw [H.len]; lia
            have G19 := G.keeps Z₁₉.keep
            refine x_exprA ?_ (by kernel_rfl) (by kernel_rfl)
            refine w_call_fn (gl_name fun pos => (by tm_at "pe")) (G19.fn (f := 140) (by kernel_rfl)) ?_
            refine w_args_cons (Pe.useR (by tm_at "pe") (w_args_cons (w_tupP (ps := [kfOf kv es (cnt + t), .int ord, .int (elAt es (cnt + t))]) Z₁₉ (ps_cons (by tm_at "pe") (ps_cons (by tm_at "pe") (ps_cons (by tm_at "pe") ps_nil))) fun T h₂₀ Z₂₀ => w_args_nil ⟨(G.keeps Z₂₀.keep).fn (f := 140) (by kernel_rfl), ?_⟩)))
            have hT : T ∉ trs.map (·.1) := fresh_tr (K := kfOf kv es) (el := elAt es) Z₂₀ fun y hy => memTr3 hy
            obtain ⟨H₁, hp₁⟩ := H.repl hW hp (by lia) e2 hT
            have Z₂₁ := Z₂₀.perm (List.Perm.swap _ _ _)
            refine heapreplace_max_spec (n := m + 1) (y := .ref T) (lt := RR (klOf false lt kv es) ((T, cnt + t, ord) :: trs)) (hR.less (by lia)) (G.keeps (Z₂₁.keepHide .here)) (Z₂₁.get .here) hpl (by rw [H.len]; lia) (fun p hp q hq A' h' hA' kp => ?_) rfl fun v h₂₂ hv kp o₂₂ => ?_
            · have mm : ∀ p ∈ PV.ref T :: ps, ∃ x ∈ (T, cnt + t, ord) :: trs, p = .ref x.1 := fun p hp => by
                rcases List.mem_cons.mp hp with rfl | hp
                · exact ⟨_, .head _, rfl⟩
                · obtain ⟨x, hx, e⟩ := H.mem p hp
                  exact ⟨x, .tail _ hx, e⟩
              refine cm_heap (b := false) (qs := ps) (Kf := kfOf kv es) (el := elAt es) X hA' ((Z₂₁.keepHide .here).trans kp) H₁ hK (fun x hx => ?_) (mm p hp) (mm q hq)
              refine (Z₂₁.ownHide (p := trCell (kfOf kv es) (elAt es) x) ?_).keeps kp
              rcases List.mem_cons.mp hx with rfl | hx
              · exact .head _
              · exact memTr3 hx
            have Z₂₂ := (Z₂₁.turned .here kp o₂₂).perm (List.Perm.trans (List.Perm.swap _ _ _) (perm3 _ _ _ _ _))
            clear Z₁₉ Z₂₀ Z₂₁ kp o₂₂ G19
            as_aux_lemma =>
            have hl₁ := H₁.len
            generalize siftup (RR (klOf false lt kv es) ((T, cnt + t, ord) :: trs)) (fun x y => !RR (klOf false lt kv es) ((T, cnt + t, ord) :: trs) y x) (ps.set 0 (.ref T)) 0 = ps₁ at *
            obtain ⟨a0, o0, e0, m0, l0⟩ := H₁.at (gd_mem (show 0 < ps₁.length by lia))
            have g0 : ps₁[(0 : Int).toNat]? = some (.ref a0) := by rw [← e0]; exact getD_at0 (by lia)
            refine x_assignTup (Pe.useR (e_item (by tm_at "pe") (by tm_at "pe") (Z₂₂.get .here) (by decide) (by decide) g0) ?_)
            refine w_unpack3 hR.h Z₂₂ (Z₂₂.own _ (memTr3 (f := trCell (kfOf kv es) (elAt es)) m0)) (by repeat' with_reducible constructor) (by repeat' with_reducible constructor) (by repeat' with_reducible constructor) fun h₂₃ Z₂₃ => ?_
            refine x_aug Z₂₃ (by repeat' with_reducible constructor) (by tm_at "pe") aug_add (by repeat' with_reducible constructor) fun h₂₄ Z₂₄ => x_done (x_nil (kR <| lp_next ?_))
            have H₂ : HI false (klOf false lt kv es) cnt (cnt + t + 1) (ord + 1) ((T, cnt + t, ord) :: trs) ps₁ := H₁
            exact ⟨_, _, _, H₂, hp₁, Z₂₄.wk (by repeat' first | with_reducible constructor | refine' Wk.keep ?_)⟩
          · exact x_done (x_nil (kR <| lp_next ⟨_, _, _, H.skip hW hp (by lia) e2, hp, Z₁₉.wk (by repeat' first | with_reducible constructor | refine' Wk.keep ?_)⟩))
        · rintro h₁₅ ⟨ord, trs, ps, H, hp, Z⟩
          rw [show cnt + (es.length - cnt) = es.length by lia] at H Z
          refine next_list_end hR.h (Z.perm (List.Perm.swap _ _ _)) (Own.keeps Z.keep o) (by lia) fun h₁₆ Z₁₆ => ⟨rfl, kS <| sx_next ⟨_, _, _, H, Z₁₆.wk (by repeat' first | with_reducible constructor | refine' Wk.keep ?_)⟩⟩
      · rintro h₁₅ ⟨ord, trs, ps, H, Z⟩
        have hl := H.len
        have tris : ∀ h', St (callEnvC (fdOf (hd.heap_39 P) 181) L 181) h [("n", none), ("iterable", none), ("it", none), ("sentinel", none), ("result", some (.ref acc)), ("size", none), ("elem", none), ("top", none), ("order", none), ("_heapreplace", none), ("_order", none), ("k", none), ("_elem", none)] ((acc, .list []) :: (L + 1, celO (some (.ref kf))) :: trs.map (trCell (kfOf kv es) (elAt es))) h' → ∀ x ∈ trs, Own h' (trCell (kfOf kv es) (elAt es) x).1 (trCell (kfOf kv es) (elAt es) x).2 := fun h' Z x hx => Z.own _ (List.mem_cons_of_mem _ (List.mem_cons_of_mem _ (List.mem_map.mpr ⟨x, hx, rfl⟩)))
        refine x_mcall (Pe.useR (by tm_at "pe") ?_) (by kernel_rfl)
        refine ⟨_, _, mt_list (Z.get .here) PyProof.Rows.slot_list_sort (by kernel_rfl), ?_⟩
        refine w_callWith0 ?_
        refine w_sortPlain (lt := RR (klOf false lt kv es) trs) (κ := tuples' true) Z (by lia) (by lia) (fun h' Z' keys hkeys R hR' => ?_) (fun h' Z' p hp q hq u v hu hv R hR' => ?_) fun h₁₆ Z₁₆ => ⟨(fun _ z => nomatch z), ?_⟩
        · refine kind_heap X Z'.keep hkeys (by lia) (fun p hp => ?_) hR'
          obtain ⟨x, hx, rfl⟩ := H.mem p hp
          exact ⟨_, _, _, _, rfl, hK _, tris h' Z' x hx⟩
        · exact kl_heap (b := false) (ps := ps) (qs := ps) (Kf := kfOf kv es) (el := elAt es) X (hR.less (by lia)).in1 Z'.keep H hK (tris h' Z') (H.mem p hp) (H.mem q hq) hu hv hR'
        have fin := H.out (kv := kv) (es := es) W (by lia) hne rfl
        have fin2 : (sortOut false (RR (klOf false lt kv es) trs) id ps).map (fun p => PV.int (elAt es (ixOf trs p))) = (sortOut false lt kv (es.map PV.int)).take cnt := fin.2
        have fin1 : ∀ p ∈ sortOut false (RR (klOf false lt kv es) trs) id ps, p ∈ ps := fin.1
        clear fin Z tris
        generalize sortOut false (RR (klOf false lt kv es) trs) id ps = qs at *
        have hql : qs.length ≤ cnt := by
          have := congrArg List.length fin2
          rw [List.length_map] at this
          rw [this]; exact List.length_take_le ..
        refine x_ret' (w_listComp (h₀ := h) (l := [("n", none), ("iterable", none), ("it", none), ("sentinel", none), ("result", some (.ref acc)), ("size", none), ("elem", none), ("top", none), ("order", none), ("_heapreplace", none), ("_order", none), ("k", none), ("_elem", none)]) (cl := []) (ks := ["k", "order", "elem"]) (by kernel_rfl) rfl (by decide +kernel) (by decide +kernel) (fun _ => LocK.of (by kernel_rfl) (by kernel_rfl) (by decide +kernel)) ?_)
        refine Pe.useR (by tm_at "pe") ?_
        refine w_iter_list Z₁₆ (Z₁₆.get .here) fun it2 h₁₇ Z₁₇ => ⟨_, Z₁₇, fun acc2 L' oL h₁₈ Z₁₈ => ?_⟩
        have Zq : St _ h _ ((it2, lit acc 0) :: ((callEnvC (fdOf (hd.heap_39 P) 181) L 181).locals, .raw oL) :: (acc2, .list ((qs.take 0).map fun p => PV.int (elAt es (ixOf trs p)))) :: (acc, .list qs) :: (L + 1, celO (some (.ref kf))) :: trs.map (trCell (kfOf kv es) (elAt es))) h₁₈ :=
          Z₁₈.perm ((List.perm_append_comm (l₁ := [_, _]) (l₂ := [_])).append_right (_ :: _ :: _))
        clear Z₁₇ Z₁₈
        as_aux_lemma =>
        refine cp_compStart (cp_compN qs.length (fun i h' => St _ h [("k", none), ("order", none), ("elem", none)] ((it2, lit acc i) :: ((callEnvC (fdOf (hd.heap_39 P) 181) L 181).locals, .raw oL) :: (acc2, .list ((qs.take i).map fun p => PV.int (elAt es (ixOf trs p)))) :: (acc, .list qs) :: (L + 1, celO (some (.ref kf))) :: trs.map (trCell (kfOf kv es) (elAt es))) h') ?_ ?_ 0 h₁₈ (Nat.zero_le _) Zq) (w_iter_lit (Zq.get .here) ⟨rfl, rfl⟩)
        · rintro i h₁₉ hi Z J kJ
          obtain ⟨a0, o0, e0, m0, l0⟩ := H.at (fin1 _ (List.getElem_mem hi))
          refine next_list Z (by repeat' with_reducible constructor) (by repeat' with_reducible constructor) (Z.get (by repeat' with_reducible constructor)) (p := .ref a0) (by rw [List.getElem?_eq_getElem hi, e0]) fun v h₂₀ hv Z₂₀ => ⟨v, rfl, ?_⟩
          obtain rfl := pv_ref hv
          refine letGo_tup (T := "list_iterator") (Z₂₀.get .here) (fun ob d => d.1) (by decide) ?_
          refine w_unpack3 hR.h Z₂₀ (Z₂₀.own _ (memTr5 (f := trCell (kfOf kv es) (elAt es)) m0)) (by repeat' with_reducible constructor) (by repeat' with_reducible constructor) (by repeat' with_reducible constructor) fun h₂₁ Z₂₁ => w_tests0 ?_
          first | refine ite_t ?_ | refine exs_t ?_ | refine ev_t ?_ | rw [if_pos rfl]
          clear Z Z₂₀
          as_aux_lemma =>
          refine Pe.use (p := .int (elAt es (ixOf trs qs[i]))) (by tm_at "pe") fun w hw => ?_
          refine w_append Z₂₁ hw (by repeat' with_reducible constructor) (by repeat' with_reducible constructor) (by rw [List.length_map, List.length_take]; first | exact szm (by exact Nat.le_of_lt (Nat.lt_of_lt_of_le (by assumption) (by decide))) | exact sz (by lia) | (simp [sizeLine]; lia)) fun h₂₂ Z₂₂ => kJ ?_
          rw [List.take_add_one, List.getElem?_eq_getElem hi, List.map_append]
          exact Z₂₂.wk (by repeat' first | with_reducible constructor | refine' Wk.keep ?_)
        · rintro h₁₉ Z
          refine next_list_end hR.h Z (Z.get (by repeat' with_reducible constructor)) (Nat.le_refl _) fun h₂₀ Z₂₀ => ⟨rfl, _, _, _, Z₂₀, fun h₂₁ Z₂₁ => ?_⟩
          ((repeat with_reducible refine sq_ret ?_); with_reducible refine fq_ret ?_)
          refine k acc2 h₂₁ ?_
          rw [List.take_length, fin2] at Z₂₁
          exact Z₂₁.new.sub (List.IsPrefix.sublist ⟨_, rfl⟩)

set_option maxHeartbeats 400000
theorem rangeSize_down (n : Int) (hn : 0 ≤ n) : Builtin.Range.rangeSize 0 (-n) (-1) = n := by
  unfold Builtin.Range.rangeSize
  simp
  lia
theorem nlargest_spec {C : Cx} {A : Around} {h : Heap} {P : Params} {m cnt : Nat} {us : List Value} {a kf : Addr} {es : List Int} {kv : PV → PV} {ks : PV → Prop} {e lt : PV → PV → Bool} {T : Value} {Q : Value → Heap → Prop} (hA : Rm (m + 5) A) (G : Gd (hd.heap_39 P) h)
    (hu : us.map pv = [.int cnt, .ref a]) (o : Own h a (.list (es.map PV.int))) (hf : PySem.W.FnAt kf h) (hk : KeyOk C m h (.ref kf) (es.map PV.int) kv) (X : KeyTy C m h ks e lt T) (hks : ∀ x ∈ es, ks (kv (.int x)))
    (h1 : 1 ≤ cnt) (h2 : cnt < es.length) (h3 : es.length < 64)
    (k : ∀ r h', New h h' [(r, .list ((sortOut true lt kv (es.map PV.int)).take cnt))] → Q (.ref r) h') :
    Cp C A (.call (.ref 187) ⟨us, [("key", .ref kf)]⟩) (fun fl h' => ∃ v, fl = .ret v ∧ Q v h') h := by
  have FF := FnC.mk (K := hd.heap_39 P) (f := 187) (xs := ["n", "iterable", "key"]) (ks := ["n", "iterable", "it", "sentinel", "result", "size", "elem", "top", "order", "_heapreplace", "_order", "k", "_elem"]) (zs := ["key"]) (by kernel_rfl) (fn_body (by k_is) (by exact rfl)) (by kernel_rfl) (by kernel_rfl) (fun _ => LocK.of (by kernel_rfl) (by kernel_rfl) (by decide +kernel)) (by decide +kernel) (by kernel_rfl) (by decide +kernel) (by kernel_rfl) (by kernel_rfl) (by kernel_rfl) (by kernel_rfl)
  obtain ⟨u1, u2, rfl⟩ := args2 hu
  have hT : (hd.heap_39 P).lookup (182 : Addr) = some ({ cls := .type "tuple", data := .seq #[.none] 0 } : Obj) := (by kernel_rfl)
  have hu' : [u1, u2, .ref kf].map pv = [.int cnt, .ref a, .ref kf] := by
    rw [show [u1, u2, (Value.ref kf)] = [u1, u2] ++ [.ref kf] from rfl, List.map_append, hu]; rfl
  refine fnC_enter (l := [("n", some (.int cnt)), ("iterable", some (.ref a)), ("it", none), ("sentinel", none), ("result", none), ("size", none), ("elem", none), ("top", none), ("order", none), ("_heapreplace", none), ("_order", none), ("k", none), ("_elem", none)]) (cs := fun L => [(L + 1, celO (some (.ref kf)))]) (vs := [u1, u2, .ref kf]) FF hA G hu' rfl (Bd.load (G.k _ _ hT) (by kernel_rfl) (by kernel_rfl)) (by kernel_rfl) (fun L => by kernel_rfl) fun L h₁ Z G' hR => ?_
  have hne : 0 < es.length := by lia
  have hK : ∀ i, ks (kv (.int (elAt es i))) := fun i => hks _ (elAt_mem hne i)
  have hKf : ∀ i, ks (kfOf kv es i) := hK
  have W := key_wo X hK true
  have ol := Own.keeps Z.keep o
  have hlen : (es.map PV.int).length = es.length := List.length_map ..
  refine x_if (t_cmp (by tm_at "pe") (by tm_at "pe") (by repeat' (show (_ : Prop); first | with_reducible refine' CmI.cm ?_ | with_reducible constructor | rfl)) rfl) (fun e1 => ?_) (fun e1 => ?_)
  · have hc : cnt = 1 := by have : (cnt : Int) = 1 := by simpa using e1
                            lia
    subst hc
    refine x_assign' (w_call_bi (gl_boot G' (by kernel_rfl) boot_iter (by decide +kernel) (by kernel_rfl) (by kernel_rfl) (by kernel_rfl) (by kernel_rfl)) (w_args_cons (Pe.useR (by tm_at "pe") (w_args_nil ?_))))
    refine w_iterCall (w_iter_list Z ol fun it h₂ Z₂ => w_store (p := .ref it) Z₂ rfl (by repeat' with_reducible constructor) fun h₃ Z₃ => ?_)
    have G3 := G.keeps Z₃.keep
    refine x_assign' (w_call_ty0 (gl_boot G3 (by kernel_rfl) boot_object (by decide +kernel) (by kernel_rfl) (by kernel_rfl) (by kernel_rfl) (by kernel_rfl)) (w_object Z₃ fun st h₄ Z₄ => w_store (p := .ref st) Z₄ rfl (by repeat' with_reducible constructor) fun h₅ Z₅ => ?_))
    have G5 := G.keeps Z₅.keep
    refine x_assign' (w_call_bi_kw (gl_boot G5 (by kernel_rfl) boot_max (by decide +kernel) (by kernel_rfl) (by kernel_rfl) (by kernel_rfl) (by kernel_rfl)) (w_args_cons (Pe.useR (by tm_at "pe") (w_args_nil ?_))))
    refine w_kws_cons (Pe.use (p := .ref st) (by tm_at "pe") fun v2 hv2 => w_kws_cons (Pe.use (p := .ref kf) (e_cell (by kernel_rfl) (by kernel_rfl) (by kernel_rfl) (Z₅.get (by repeat' with_reducible constructor))) fun v3 hv3 => w_kws_nil ?_))
    obtain rfl := pv_ref hv2
    obtain rfl := pv_ref hv3
    obtain ⟨x, r, rfl⟩ : ∃ x r, es = x :: r := by
      cases es with
      | nil => simp at hne
      | cons x r => exact ⟨x, r, rfl⟩
    have hmin := min_sorted (b := true) (lt := lt) (kv := kv) (p := .int x) (r := r.map PV.int) W (fun i j hi hj => by
      have hi : i < (x :: r).length := by simpa using hi
      have hj : j < (x :: r).length := by simpa using hj
      have := elAt_pv hi
      have := elAt_pv hj
      simp only [List.map_cons] at *
      simp_all)
    obtain ⟨mi, hmi⟩ : ∃ mi : Int, minGo (fun p q => ltb true lt (kv p) (kv q)) (.int x) (r.map PV.int) = .int mi := by
      have : ∀ (r : List Int) (x : Int), ∃ mi : Int, minGo (fun p q => ltb true lt (kv p) (kv q)) (.int x) (r.map PV.int) = .int mi := by
        intro r
        induction r with
        | nil => intro x; exact ⟨x, rfl⟩
        | cons y r ih => intro x; rw [List.map_cons, minGo_c]; split <;> exact ih _
      exact this r x
    refine w_max_dk (lt := ltb true lt) (n := m) (hR.less (by lia)) Z₅.swap o rfl hk (fun A h r kp p hp q hq => ?_) fun v h₆ Z₆ hv => ?_
    · obtain ⟨p1, hp1, rfl⟩ := List.mem_map.mp hp
      obtain ⟨p2, hp2, rfl⟩ := List.mem_map.mp hp1
      obtain ⟨q1, hq1, rfl⟩ := List.mem_map.mp hq
      obtain ⟨q2, hq2, rfl⟩ := List.mem_map.mp hq1
      exact X.cGt A h r kp _ _ (hks p2 hp2) (hks q2 hq2)
    · rw [hmi] at hv
      refine w_store Z₆ hv (by repeat' with_reducible constructor) fun h₇ Z₇ => ?_
      refine x_ret' (w_ifExp (w_testPt (t_cmp (by tm_at "pe") (by tm_at "pe") c_is_int_ref rfl) ?_))
      first | refine ite_f ?_ | refine exs_f ?_ | refine ev_f ?_ | rw [if_neg Bool.false_ne_true]
      refine w_listP (ps := [.int mi]) Z₇ (ps_cons (by tm_at "pe") ps_nil) fun r0 h₈ Z₈ => ?_
      ((repeat with_reducible refine sq_ret ?_); with_reducible refine fq_ret ?_)
      refine k r0 h₈ ?_
      have hmin' : [minGo (fun p q => ltb true lt (kv p) (kv q)) (.int x) (r.map PV.int)] = (sortOut true lt kv (.int x :: r.map PV.int)).take 1 := hmin
      rw [show (x :: r).map PV.int = .int x :: r.map PV.int from rfl, ← hmin', hmi]
      exact Z₈.new.sub (List.IsPrefix.sublist ⟨_, rfl⟩)
  · have hc1 : cnt ≠ 1 := by rintro rfl; simp at e1
    have hc2 : 2 ≤ cnt := by lia
    refine x_done (x_try ?_)
    refine x_assign Z (e_len (gl_boot G' (by kernel_rfl) boot_len (by decide +kernel) (by kernel_rfl) (by kernel_rfl) (by kernel_rfl) (by kernel_rfl)) (by tm_at "pe") ol (by lia)) (by repeat' with_reducible constructor) fun h₂ Z₂ => x_done ?_
    rw [hlen] at Z₂
    refine x_if (b := false) (t_cmp (by tm_at "pe") (by tm_at "pe") (by repeat' (show (_ : Prop); first | with_reducible refine' CmI.cm ?_ | with_reducible constructor | rfl)) (by simp; assumption)) (fun e1 => absurd e1 Bool.false_ne_true) (fun _ => ?_)
    refine x_done (x_done ?_)
    refine x_if (b := false) (t_cmp (e_cell (by kernel_rfl) (by kernel_rfl) (by kernel_rfl) (Z₂.get (by repeat' with_reducible constructor))) (by tm_at "pe") (by repeat' (show (_ : Prop); first | with_reducible refine' CmI.cm ?_ | with_reducible constructor | rfl)) rfl) (fun e1 => absurd e1 Bool.false_ne_true) (fun _ => x_done ?_)
    have G2 := G.keeps Z₂.keep
    refine x_assign' (w_call_bi (gl_boot G2 (by kernel_rfl) boot_iter (by decide +kernel) (by kernel_rfl) (by kernel_rfl) (by kernel_rfl) (by kernel_rfl)) (w_args_cons (Pe.useR (by tm_at "pe") (w_args_nil ?_))))
    refine w_iterCall (w_iter_list Z₂ (Own.keeps Z₂.keep o) fun it h₃ Z₃ => w_store (p := .ref it) Z₃ rfl (by repeat' with_reducible constructor) fun h₄ Z₄ => ?_)
    clear Z Z₂ Z₃ G2 ol G'
    as_aux_lemma =>
    have G4 := G.keeps Z₄.keep
    refine x_assignComp (h₀ := h) (l := [("n", some (.int cnt)), ("iterable", some (.ref a)), ("it", some (.ref it)), ("sentinel", none), ("result", none), ("size", some (.int es.length)), ("elem", none), ("top", none), ("order", none), ("_heapreplace", none), ("_order", none), ("k", none), ("_elem", none)]) (cl := [("key", L + 1)]) (ks := ["i", "elem"]) (by kernel_rfl) rfl (by decide +kernel) (by decide +kernel) (fun _ => LocK.of (by kernel_rfl) (by kernel_rfl) (by decide +kernel)) ?_ (by kernel_rfl)
    refine w_call_ty (gl_boot G4 (by kernel_rfl) boot_zip (by decide +kernel) (by kernel_rfl) (by kernel_rfl) (by kernel_rfl) (by kernel_rfl)) (w_args_cons ?_)
    refine w_call_ty (gl_boot G4 (by kernel_rfl) boot_range (by decide +kernel) (by kernel_rfl) (by kernel_rfl) (by kernel_rfl) (by kernel_rfl)) (w_args_cons (Pe.use (p := .int 0) (by tm_at "pe") fun v0 hv0 => w_args_cons (Pe.use (p := .int (-cnt)) (by tm_at "pe") fun v hv => w_args_cons (Pe.use (p := .int (-1)) (by tm_at "pe") fun v1 hv1 => w_args_nil (w_range3 Z₄ hv0 hv hv1 (by decide) (by decide) fun r h₅ Z₅ => w_args_cons (Pe.useR (by tm_at "pe") (w_args_nil ?_)))))))
    have hsz : Builtin.Range.rangeSize 0 (-(cnt : Int)) (-1) = (cnt : Int) := rangeSize_down _ (by exact Int.natCast_nonneg _)
    refine w_zip Z₅ (Z₅.get .here) (Z₅.get (by repeat' with_reducible constructor)) (rng_small (by decide) (by lia) (by decide) (by rw [hsz]; lia)) fun z TI TO i1 h₆ Z₆ => w_iter_zip (Z₆.get .here) ⟨_, Z₆.sub ((((((List.Sublist.refl _).cons _).cons_cons _).cons_cons _).cons_cons _).cons_cons _), fun acc L' oL h₇ Z₇ => ?_⟩
    rw [hsz] at Z₇
    clear Z₆ Z₅ Z₄ G4
    as_aux_lemma =>
    have Zq : St _ h _ ((z, zipO TI TO .none) :: (TO, pairO) :: (TI, pairX (.ref i1) (.ref it)) :: (i1, ritO (-((0 : Nat) : Int)) ((cnt - 0 : Nat) : Int) (-1)) :: (it, lit a 0) :: ((callEnvC (fdOf (hd.heap_39 P) 187) L 187).locals, .raw oL) :: (acc, .list []) :: (L + 1, celO (some (.ref kf))) :: ([] : List Tr).map (trCell (kfOf kv es) (elAt es))) h₇ :=
      Z₇.perm ((List.perm_append_comm (l₁ := [_, _]) (l₂ := [_, _, _, _, _])).append_right [_])
    refine cp_compStart (cp_compN cnt (fun i h' => ∃ trs ps, HI true (klOf true lt kv es) i i (-(i : Int)) trs ps ∧ ps.map (ixOf trs) = List.range i ∧ St _ h [("i", none), ("elem", none)]
      ((z, zipO TI TO .none) :: (TO, pairO) :: (TI, pairX (.ref i1) (.ref it)) :: (i1, ritO (-(i : Int)) ((cnt - i : Nat) : Int) (-1)) :: (it, lit a i) :: ((callEnvC (fdOf (hd.heap_39 P) 187) L 187).locals, .raw oL) :: (acc, .list ps) :: (L + 1, celO (some (.ref kf))) :: trs.map (trCell (kfOf kv es) (elAt es))) h') ?_ ?_ 0 h₇ (Nat.zero_le _) ⟨[], [], HI.start, rfl, Zq⟩) (w_iter_zip (Z₇.get (by repeat' with_reducible constructor)) ⟨rfl, rfl⟩)
    · rintro i h₈ hi ⟨trs, ps, H, hr, Z⟩ J kJ
      have hie : i < es.length := by lia
      refine next_zip Z (by lia) (Own.keeps Z.keep o) (p := .int (elAt es i)) (by rw [List.getElem?_map, elAt_lt hie]; rfl) ⟨Z.neB (C := C) o (.head _), Z.neB (C := C) o (.tail _ (.head _)), Z.neB (C := C) o (.tail _ (.tail _ (.tail _ (.head _)))), Z.neB (C := C) o (.tail _ (.tail _ (.tail _ (.tail _ (.head _)))))⟩ fun T h₉ Z₉ => ⟨_, rfl, ?_⟩
      refine w_ownedZip Z₉ (by repeat' with_reducible constructor) (by repeat' with_reducible constructor) fun h₁₀ Z₁₀ => ?_
      refine w_unpack2 hR.h Z₁₀ (Z₁₀.get .here) (by repeat' with_reducible constructor) (by repeat' with_reducible constructor) fun h₁₁ Z₁₁ => w_tests0 ?_
      first | refine ite_t ?_ | refine exs_t ?_ | refine ev_t ?_ | rw [if_pos rfl]
      replace Z₁₁ := Z₁₁.drop
      clear Z Z₉ Z₁₀
      as_aux_lemma =>
      refine w_Tuple (w_args_cons ?_)
      refine w_call_fnW (gl_name fun pos => e_cell (by kernel_rfl) (by kernel_rfl) (by kernel_rfl) (Z₁₁.get (by repeat' with_reducible constructor))) (FnAt.keeps hf Z₁₁.keep) (w_args_cons (Pe.use (p := .int (elAt es i)) (by tm_at "pe") fun v hv => w_args_nil ⟨FnAt.keeps hf Z₁₁.keep, ?_⟩))
      refine hk _ _ _ _ (hR.less (by exact Nat.le_add_right _ _)) Z₁₁.keep (List.mem_map.mpr ⟨_, elAt_mem hne i, rfl⟩) hv _ fun w h₁₂ kp hw => ?_
      have Z₁₂ := Z₁₁.keeps kp
      refine w_args_cons (Pe.use (p := .int (-(i : Int))) (by tm_at "pe") fun v2 hv2 => w_args_cons (Pe.use (p := .int (elAt es i)) (by tm_at "pe") fun v3 hv3 => w_args_nil ?_))
      refine w_newTupE Z₁₂ (mp3 hw hv2 hv3) fun T2 h₁₃ Z₁₃ => ?_
      refine w_append (p := .ref T2) Z₁₃ rfl (by repeat' with_reducible constructor) (by repeat' with_reducible constructor) (by rw [H.len]; first | exact szm (by exact Nat.le_of_lt (Nat.lt_of_lt_of_le (by assumption) (by decide))) | exact sz (by lia) | (simp [sizeLine]; lia)) fun h₁₄ Z₁₄ => kJ ⟨(T2, i, -(i : Int)) :: trs, ps ++ [.ref T2], ?_⟩
      have hT : T2 ∉ trs.map (·.1) := fresh_tr (K := kfOf kv es) (el := elAt es) Z₁₄ fun y hy => memTr8 hy
      obtain ⟨H', hr'⟩ := H.grow hr hT
      refine ⟨by rw [show -((i + 1 : Nat) : Int) = -(i : Int) - 1 by lia]; exact H', hr', ?_⟩
      rw [show -(i : Int) + -1 = -((i + 1 : Nat) : Int) by lia, show ((cnt - i : Nat) : Int) - 1 = ((cnt - (i + 1) : Nat) : Int) by lia] at Z₁₄
      exact (Z₁₄.perm (perm8 _ _ _ _ _ _ _ _ _ _)).wk (by repeat' first | with_reducible constructor | refine' Wk.keep ?_)
    · rintro h₈ ⟨trs, ps, H, hr, Z⟩
      refine next_zip_end (x5 := pairO) hR.h Z (by lia) fun h₉ Z₉ => ⟨rfl, _, _, _, _, Z₉.perm ((List.Perm.swap _ _ _).trans ((List.Perm.swap _ _ _).cons _)), (by repeat' with_reducible constructor), fun h₁₀ Z₁₀ => ?_⟩
      clear Z Z₉ Z₇
      as_aux_lemma =>
      have hpe : ps.isEmpty = false := by
        cases ps with
        | nil => have := H.len; simp at this; lia
        | cons => rfl
      refine x_if (t_not (t_list (by tm_at "pe") (Z₁₀.get .here) (by rw [H.len]; lia))) (fun e => absurd e (by simp [hpe])) (fun _ => x_done ?_)
      have G10 := G.keeps Z₁₀.keep
      have hW : WO (klOf true lt kv es) := W
      refine x_call (gl_top (v := .ref 133) G10 (by kernel_rfl) (by kernel_rfl) (by kernel_rfl) (by kernel_rfl)) (G10.fn (f := 133) (by kernel_rfl)) (ps_cons (p := .ref acc) (by tm_at "pe") ps_nil) rfl (fun vs hvs => ?_) (by kernel_rfl)
      refine heapify_spec (n := m + 1) (lt := fun p q => RR (klOf true lt kv es) trs q p) (hR.less (by lia)) (G.keeps (Z₁₀.keepHide .here)) (Z₁₀.get .here) (by rw [H.len]; lia) (fun p hp q hq A' h' hA' kp => ?_) hvs fun h₁₁ kp o₁₁ => ⟨(fun _ z => nomatch z), ?_⟩
      · exact cm_heap (b := true) (ps := ps) (qs := ps) (Kf := kfOf kv es) (el := elAt es) X hA' ((Z₁₀.keepHide .here).trans kp) H hK (fun x hx => (Z₁₀.ownHide (List.mem_cons_of_mem _ (List.mem_cons_of_mem _ (List.mem_map.mpr ⟨x, hx, rfl⟩)))).keeps kp) (H.mem p hp) (H.mem q hq)
      have o₁₁ : Own h₁₁ acc (.list (hfy (RR (klOf true lt kv es) trs) (fun x y => !RR (klOf true lt kv es) trs y x) (ps.length / 2) ps)) := o₁₁
      have Z₁₁ := Z₁₀.turned .here kp o₁₁
      obtain ⟨H₁, hp₁⟩ := H.heapify hW
      clear Z₁₀ o₁₁ kp G10 hvs hpe
      as_aux_lemma =>
      have hl₁ := H₁.len
      generalize hfy (RR (klOf true lt kv es) trs) (fun x y => !RR (klOf true lt kv es) trs y x) (ps.length / 2) ps = ps₁ at *
      obtain ⟨a0, o0, e0, m0, l0⟩ := H₁.at (gd_mem (show 0 < ps₁.length by lia))
      have g0 : ps₁[(0 : Int).toNat]? = some (.ref a0) := by rw [← e0]; exact getD_at0 (by lia)
      refine x_assign Z₁₁ (p := kfOf kv es (ixOf trs (gd ps₁ 0))) (e_item_tup (e_item (by tm_at "pe") (by tm_at "pe") (Z₁₁.get .here) (by decide) (by decide) g0) (by tm_at "pe") (Z₁₁.own _ (memTr3 m0)) (by decide) (by decide) rfl) (by repeat' with_reducible constructor) fun h₁₂ Z₁₂ => ?_
      refine x_assign Z₁₂ (p := .int (-cnt)) (by tm_at "pe") (by repeat' with_reducible constructor) fun h₁₃ Z₁₃ => ?_
      have G13 := G.keeps Z₁₃.keep
      refine x_assign Z₁₃ (p := .ref 126) (e_gl (gl_top (v := .ref 126) G13 (by kernel_rfl) (by kernel_rfl) (by kernel_rfl) (by kernel_rfl))) (by repeat' with_reducible constructor) fun h₁₄ Z₁₄ => ?_
      clear Z₁₁ Z₁₂ Z₁₃ G13
      as_aux_lemma =>
      refine x_forX (fun h' => ∃ ord trs ps, HI true (klOf true lt kv es) cnt es.length ord trs ps ∧ St (callEnvC (fdOf (hd.heap_39 P) 187) L 187) h [("n", none), ("iterable", none), ("it", none), ("sentinel", none), ("result", some (.ref acc)), ("size", none), ("elem", none), ("top", none), ("order", none), ("_heapreplace", none), ("_order", none), ("k", none), ("_elem", none)] ((acc, .list ps) :: (L + 1, celO (some (.ref kf))) :: trs.map (trCell (kfOf kv es) (elAt es))) h') ?_ ?_
      · intro S kS
        refine Pe.useR (by tm_at "pe") ?_
        refine w_iter_lit (Z₁₄.get (by repeat' with_reducible constructor)) ?_
        refine w_forN (es.length - cnt) (fun t h' => ∃ ord trs ps, HI true (klOf true lt kv es) cnt (cnt + t) ord trs ps ∧ HeapFrom (RR (klOf true lt kv es) trs) ps 0 ∧ St (callEnvC (fdOf (hd.heap_39 P) 187) L 187) h [("n", none), ("iterable", none), ("it", none), ("sentinel", none), ("result", some (.ref acc)), ("size", none), ("elem", none), ("top", some (kfOf kv es (ixOf trs (gd ps 0)))), ("order", some (.int ord)), ("_heapreplace", some (.ref 126)), ("_order", none), ("k", none), ("_elem", none)] ((acc, .list ps) :: (it, lit a (cnt + t)) :: (L + 1, celO (some (.ref kf))) :: trs.map (trCell (kfOf kv es) (elAt es))) h') ?_ ?_ ⟨-(cnt : Int), trs, ps₁, H₁, hp₁, Z₁₄.wk (by repeat' first | with_reducible constructor | refine' Wk.keep ?_)⟩
        · rintro t h₁₅ ht ⟨ord, trs, ps, H, hp, Z⟩ R kR
          have hte : cnt + t < es.length := by lia
          refine next_list Z (by repeat' with_reducible constructor) (by repeat' with_reducible constructor) (Own.keeps Z.keep o) (p := .int (elAt es (cnt + t))) (by rw [List.getElem?_map, elAt_lt hte]; rfl) fun v h₁₆ hv Z₁₆ => ⟨v, rfl, w_store Z₁₆ hv (by repeat' with_reducible constructor) fun h₁₇ Z₁₇ => ?_⟩
          clear Z Z₁₆
          as_aux_lemma =>
          refine x_assign' (w_call_fnW (gl_name fun pos => e_cell (by kernel_rfl) (by kernel_rfl) (by kernel_rfl) (Z₁₇.get (by repeat' with_reducible constructor))) (FnAt.keeps hf Z₁₇.keep) (w_args_cons (Pe.use (p := .int (elAt es (cnt + t))) (by tm_at "pe") fun v hv => w_args_nil ⟨FnAt.keeps hf Z₁₇.keep, ?_⟩)))
          refine hk _ _ _ _ (hR.less (by exact Nat.le_add_right _ _)) Z₁₇.keep (List.mem_map.mpr ⟨_, elAt_mem hne _, rfl⟩) hv _ fun w h₁₈ kp hw => ?_
          refine w_store (p := kfOf kv es (cnt + t)) (Z₁₇.keeps kp) hw (by repeat' with_reducible constructor) fun h₁₉ Z₁₉ => ?_
          clear Z₁₇ kp
          as_aux_lemma =>
          refine x_if (b := klOf true lt kv es (cnt + t) (ixOf trs (gd ps 0))) (t_cmp (by tm_at "pe") (by tm_at "pe") (X.cLt _ _ (hR.less (by exact Nat.le_add_right _ _)) Z₁₉.keep _ _ (hKf _) (hKf _)) rfl) (fun e2 => ?_) (fun e2 => ?_)
          · have hpl : 0 < ps.length := by rw [H.len]; lia
            have G19 := G.keeps Z₁₉.keep
            refine x_exprA ?_ (by kernel_rfl) (by kernel_rfl)
            refine w_call_fn (gl_name fun pos => (by tm_at "pe")) (G19.fn (f := 126) (by kernel_rfl)) ?_
            refine w_args_cons (Pe.useR (by tm_at "pe") (w_args_cons (w_tupP (ps := [kfOf kv es (cnt + t), .int ord, .int (elAt es (cnt + t))]) Z₁₉ (ps_cons (by tm_at "pe") (ps_cons (by tm_at "pe") (ps_cons (by tm_at "pe") ps_nil))) fun T h₂₀ Z₂₀ => w_args_nil ⟨(G.keeps Z₂₀.keep).fn (f := 126) (by kernel_rfl), ?_⟩)))
            have hT : T ∉ trs.map (·.1) := fresh_tr (K := kfOf kv es) (el := elAt es) Z₂₀ fun y hy => memTr3 hy
            obtain ⟨H₁, hp₁⟩ := H.repl hW hp (by lia) e2 hT
            have Z₂₁ := Z₂₀.perm (List.Perm.swap _ _ _)
            refine heapreplace_spec (n := m + 1) (y := .ref T) (lt := fun p q => RR (klOf true lt kv es) ((T, cnt + t, ord) :: trs) q p) (hR.less (by lia)) (G.keeps (Z₂₁.keepHide .here)) (Z₂₁.get .here) hpl (by rw [H.len]; lia) (fun p hp q hq A' h' hA' kp => ?_) rfl fun v h₂₂ hv kp o₂₂ => ?_
            · have mm : ∀ p ∈ PV.ref T :: ps, ∃ x ∈ (T, cnt + t, ord) :: trs, p = .ref x.1 := fun p hp => by
                rcases List.mem_cons.mp hp with rfl | hp
                · exact ⟨_, .head _, rfl⟩
                · obtain ⟨x, hx, e⟩ := H.mem p hp
                  exact ⟨x, .tail _ hx, e⟩
              refine cm_heap (b := true) (qs := ps) (Kf := kfOf kv es) (el := elAt es) X hA' ((Z₂₁.keepHide .here).trans kp) H₁ hK (fun x hx => ?_) (mm p hp) (mm q hq)
              refine (Z₂₁.ownHide (p := trCell (kfOf kv es) (elAt es) x) ?_).keeps kp
              rcases List.mem_cons.mp hx with rfl | hx
              · exact .head _
              · exact memTr3 hx
            have o₂₂ : Own h₂₂ acc (.list (siftup (RR (klOf true lt kv es) ((T, cnt + t, ord) :: trs)) (fun x y => !RR (klOf true lt kv es) ((T, cnt + t, ord) :: trs) y x) (ps.set 0 (.ref T)) 0)) := o₂₂
            have Z₂₂ := (Z₂₁.turned .here kp o₂₂).perm (List.Perm.trans (List.Perm.swap _ _ _) (perm3 _ _ _ _ _))
            clear Z₁₉ Z₂₀ Z₂₁ kp o₂₂ G19
            as_aux_lemma =>
            have hl₁ := H₁.len
            generalize siftup (RR (klOf true lt kv es) ((T, cnt + t, ord) :: trs)) (fun x y => !RR (klOf true lt kv es) ((T, cnt + t, ord) :: trs) y x) (ps.set 0 (.ref T)) 0 = ps₁ at *
            obtain ⟨a0, o0, e0, m0, l0⟩ := H₁.at (gd_mem (show 0 < ps₁.length by lia))
            have g0 : ps₁[(0 : Int).toNat]? = some (.ref a0) := by rw [← e0]; exact getD_at0 (by lia)
            refine x_assignTup (Pe.useR (e_item (by tm_at "pe") (by tm_at "pe") (Z₂₂.get .here) (by decide) (by decide) g0) ?_)
            refine w_unpack3 hR.h Z₂₂ (Z₂₂.own _ (memTr3 (f := trCell (kfOf kv es) (elAt es)) m0)) (by repeat' with_reducible constructor) (by repeat' with_reducible constructor) (by repeat' with_reducible constructor) fun h₂₃ Z₂₃ => ?_
            refine x_aug Z₂₃ (by repeat' with_reducible constructor) (by tm_at "pe") aug_sub (by repeat' with_reducible constructor) fun h₂₄ Z₂₄ => x_done (x_nil (kR <| lp_next ?_))
            have H₂ : HI true (klOf true lt kv es) cnt (cnt + t + 1) (ord - 1) ((T, cnt + t, ord) :: trs) ps₁ := H₁
            exact ⟨_, _, _, H₂, hp₁, Z₂₄.wk (by repeat' first | with_reducible constructor | refine' Wk.keep ?_)⟩
          · exact x_done (x_nil (kR <| lp_next ⟨_, _, _, H.skip hW hp (by lia) e2, hp, Z₁₉.wk (by repeat' first | with_reducible constructor | refine' Wk.keep ?_)⟩))
        · rintro h₁₅ ⟨ord, trs, ps, H, hp, Z⟩
          rw [show cnt + (es.length - cnt) = es.length by lia] at H Z
          refine next_list_end hR.h (Z.perm (List.Perm.swap _ _ _)) (Own.keeps Z.keep o) (by lia) fun h₁₆ Z₁₆ => ⟨rfl, kS <| sx_next ⟨_, _, _, H, Z₁₆.wk (by repeat' first | with_reducible constructor | refine' Wk.keep ?_)⟩⟩
      · rintro h₁₅ ⟨ord, trs, ps, H, Z⟩
        have hl := H.len
        have tris : ∀ h', St (callEnvC (fdOf (hd.heap_39 P) 187) L 187) h [("n", none), ("iterable", none), ("it", none), ("sentinel", none), ("result", some (.ref acc)), ("size", none), ("elem", none), ("top", none), ("order", none), ("_heapreplace", none), ("_order", none), ("k", none), ("_elem", none)] ((acc, .list []) :: (L + 1, celO (some (.ref kf))) :: trs.map (trCell (kfOf kv es) (elAt es))) h' → ∀ x ∈ trs, Own h' (trCell (kfOf kv es) (elAt es) x).1 (trCell (kfOf kv es) (elAt es) x).2 := fun h' Z x hx => Z.own _ (List.mem_cons_of_mem _ (List.mem_cons_of_mem _ (List.mem_map.mpr ⟨x, hx, rfl⟩)))
        refine x_exprA ?_ (by kernel_rfl) (by kernel_rfl)
        refine w_mcallKw (Pe.useR (by tm_at "pe") ?_)
        refine ⟨_, _, mt_list (Z.get .here) PyProof.Rows.slot_list_sort (by kernel_rfl), ?_⟩
        refine w_callWithKw0 ?_
        refine w_kws_cons (Pe.use (p := .bool true) (by tm_at "pe") fun vb hvb => w_kws_nil ?_)
        obtain rfl := pv_bool hvb
        refine w_sortRev (b := true) (lt := fun p q => RR (klOf true lt kv es) trs q p) (κ := tuples' true) Z (by lia) (by lia) (fun h' Z' keys hkeys R hR' => ?_) (fun h' Z' p hp q hq u v hu hv R hR' => ?_) fun h₁₆ Z₁₆ => ?_
        · refine kind_heap X Z'.keep hkeys (by lia) (fun p hp => ?_) hR'
          obtain ⟨x, hx, rfl⟩ := H.mem p hp
          exact ⟨_, _, _, _, rfl, hK _, tris h' Z' x hx⟩
        · exact kl_heap (b := true) (ps := ps) (qs := ps) (Kf := kfOf kv es) (el := elAt es) X (hR.less (by lia)).in1 Z'.keep H hK (tris h' Z') (H.mem p hp) (H.mem q hq) hu hv hR'
        have fin := H.out (kv := kv) (es := es) W (by lia) hne rfl
        have fin2 : (sortOut true (fun p q => RR (klOf true lt kv es) trs q p) id ps).map (fun p => PV.int (elAt es (ixOf trs p))) = (sortOut true lt kv (es.map PV.int)).take cnt := fin.2
        have fin1 : ∀ p ∈ sortOut true (fun p q => RR (klOf true lt kv es) trs q p) id ps, p ∈ ps := fin.1
        clear fin Z tris
        generalize sortOut true (fun p q => RR (klOf true lt kv es) trs q p) id ps = qs at *
        have hql : qs.length ≤ cnt := by
          have := congrArg List.length fin2
          rw [List.length_map] at this
          rw [this]; exact List.length_take_le ..
        refine x_ret' (w_listComp (h₀ := h) (l := [("n", none), ("iterable", none), ("it", none), ("sentinel", none), ("result", some (.ref acc)), ("size", none), ("elem", none), ("top", none), ("order", none), ("_heapreplace", none), ("_order", none), ("k", none), ("_elem", none)]) (cl := []) (ks := ["k", "order", "elem"]) (by kernel_rfl) rfl (by decide +kernel) (by decide +kernel) (fun _ => LocK.of (by kernel_rfl) (by kernel_rfl) (by decide +kernel)) ?_)
        refine Pe.useR (by tm_at "pe") ?_
        refine w_iter_list Z₁₆ (Z₁₆.get .here) fun it2 h₁₇ Z₁₇ => ⟨_, Z₁₇, fun acc2 L' oL h₁₈ Z₁₈ => ?_⟩
        have Zq : St _ h _ ((it2, lit acc 0) :: ((callEnvC (fdOf (hd.heap_39 P) 187) L 187).locals, .raw oL) :: (acc2, .list ((qs.take 0).map fun p => PV.int (elAt es (ixOf trs p)))) :: (acc, .list qs) :: (L + 1, celO (some (.ref kf))) :: trs.map (trCell (kfOf kv es) (elAt es))) h₁₈ :=
          Z₁₈.perm ((List.perm_append_comm (l₁ := [_, _]) (l₂ := [_])).append_right (_ :: _ :: _))
        clear Z₁₇ Z₁₈
        as_aux_lemma =>
        refine cp_compStart (cp_compN qs.length (fun i h' => St _ h [("k", none), ("order", none), ("elem", none)] ((it2, lit acc i) :: ((callEnvC (fdOf (hd.heap_39 P) 187) L 187).locals, .raw oL) :: (acc2, .list ((qs.take i).map fun p => PV.int (elAt es (ixOf trs p)))) :: (acc, .list qs) :: (L + 1, celO (some (.ref kf))) :: trs.map (trCell (kfOf kv es) (elAt es))) h') ?_ ?_ 0 h₁₈ (Nat.zero_le _) Zq) (w_iter_lit (Zq.get .here) ⟨rfl, rfl⟩)
        · rintro i h₁₉ hi Z J kJ
          obtain ⟨a0, o0, e0, m0, l0⟩ := H.at (fin1 _ (List.getElem_mem hi))
          refine next_list Z (by repeat' with_reducible constructor) (by repeat' with_reducible constructor) (Z.get (by repeat' with_reducible constructor)) (p := .ref a0) (by rw [List.getElem?_eq_getElem hi, e0]) fun v h₂₀ hv Z₂₀ => ⟨v, rfl, ?_⟩
          obtain rfl := pv_ref hv
          refine letGo_tup (T := "list_iterator") (Z₂₀.get .here) (fun ob d => d.1) (by decide) ?_
          refine w_unpack3 hR.h Z₂₀ (Z₂₀.own _ (memTr5 (f := trCell (kfOf kv es) (elAt es)) m0)) (by repeat' with_reducible constructor) (by repeat' with_reducible constructor) (by repeat' with_reducible constructor) fun h₂₁ Z₂₁ => w_tests0 ?_
          first | refine ite_t ?_ | refine exs_t ?_ | refine ev_t ?_ | rw [if_pos rfl]
          clear Z Z₂₀
          as_aux_lemma =>
          refine Pe.use (p := .int (elAt es (ixOf trs qs[i]))) (by tm_at "pe") fun w hw => ?_
          refine w_append Z₂₁ hw (by repeat' with_reducible constructor) (by repeat' with_reducible constructor) (by rw [List.length_map, List.length_take]; first | exact szm (by exact Nat.le_of_lt (Nat.lt_of_lt_of_le (by assumption) (by decide))) | exact sz (by lia) | (simp [sizeLine]; lia)) fun h₂₂ Z₂₂ => kJ ?_
          rw [List.take_add_one, List.getElem?_eq_getElem hi, List.map_append]
          exact Z₂₂.wk (by repeat' first | with_reducible constructor | refine' Wk.keep ?_)
        · rintro h₁₉ Z
          refine next_list_end hR.h Z (Z.get (by repeat' with_reducible constructor)) (Nat.le_refl _) fun h₂₀ Z₂₀ => ⟨rfl, _, _, _, Z₂₀, fun h₂₁ Z₂₁ => ?_⟩
          ((repeat with_reducible refine sq_ret ?_); with_reducible refine fq_ret ?_)
          refine k acc2 h₂₁ ?_
          rw [List.take_length, fin2] at Z₂₁
          exact Z₂₁.new.sub (List.IsPrefix.sublist ⟨_, rfl⟩)

set_option maxHeartbeats 400000
noncomputable def lvDig (x : Int) (k : Nat) : Int := (x.fdiv (3 ^ k)).fmod 3
noncomputable def lvOne (acc : List Int) (x : Int) (k : Nat) : List Int := acc ++ [if lvDig x k = 0 then 62 else if lvDig x k = 1 then 63 else (acc.length : Int) + 1]
noncomputable def lvNum (acc : List Int) (x : Int) : List Int := lvOne (lvOne (lvOne (lvOne acc x 0) x 1) x 2) x 3
noncomputable def lvAll (ns : List Int) : List Int := ns.foldl lvNum []
noncomputable def lvEnd (vs : List Int) (lack : Nat) : List Int := (vs.take (vs.length - lack)).dropLast ++ [((vs.take (vs.length - lack)).getLastD 0).fdiv (4 ^ lack) * 4 ^ lack]
noncomputable def lawValues (ns : List Int) (lack : Nat) : List Int := lvEnd (lvAll ns) lack
theorem lvOne_len (acc : List Int) (x : Int) (k : Nat) : (lvOne acc x k).length = acc.length + 1 := by simp [lvOne]
theorem lvNum_len (acc : List Int) (x : Int) : (lvNum acc x).length = acc.length + 4 := by simp [lvNum, lvOne_len]
theorem lvAll_take {ns : List Int} {i : Nat} {b : Int} (h : ns[i]? = some b) : lvAll (ns.take (i + 1)) = lvNum (lvAll (ns.take i)) b := by
  unfold lvAll
  rw [List.take_succ, h]
  simp
theorem lvAll_len (ns : List Int) : (lvAll ns).length = 4 * ns.length := by
  have : ∀ (ns : List Int) (acc : List Int), (ns.foldl lvNum acc).length = acc.length + 4 * ns.length := by
    intro ns
    induction ns with
    | nil => intro acc; simp
    | cons x ns ih => intro acc; rw [List.foldl_cons, ih, lvNum_len, List.length_cons]; lia
  simpa [lvAll] using this ns []
noncomputable def lvSteps (acc : List Int) (x : Int) : Nat → List Int
  | 0 => acc
  | k + 1 => lvOne (lvSteps acc x k) x k
theorem lvSteps_len (acc : List Int) (x : Int) : ∀ k, (lvSteps acc x k).length = acc.length + k
  | 0 => rfl
  | k + 1 => by rw [lvSteps, lvOne_len, lvSteps_len acc x k]; lia
theorem lvDig_cases (x : Int) (k : Nat) : lvDig x k = 0 ∨ lvDig x k = 1 ∨ lvDig x k = 2 := by
  unfold lvDig
  rw [Int.fmod_eq_emod_of_nonneg _ (by decide)]; lia
theorem law_values_spec {C : Cx} {A : Around} {h : Heap} {P : Params} {n : Nat} {us : List Value} {a : Addr} {ns : List Int} {lack : Nat} {Q : Value → Heap → Prop} (hA : Rm (n + 1) A) (G : Gd (hd.heap_39 P) h)
    (hu : us.map pv = [.ref a, .int lack]) (o : Own h a (.list (ns.map PV.int))) (hn : 0 < ns.length) (hn2 : ns.length ≤ 64) (hl : lack < 3)
    (k : ∀ r h', Keeps h h' → Own h' r (.list ((lawValues ns lack).map PV.int)) → h.get? r = none → Q (.ref r) h') : Cp C A (.call (.ref 211) ⟨us, []⟩) (fun fl h' => ∃ v, fl = .ret v ∧ Q v h') h := by
  have FF := Fn.mk (K := hd.heap_39 P) (f := 211) (xs := ["numbers", "lack"]) (ys := ["values", "x", "k"]) (by kernel_rfl) (fn_body (by k_is) (by exact rfl)) (by kernel_rfl) (by kernel_rfl) (fun _ => LocK.of (by kernel_rfl) (by kernel_rfl) (by decide +kernel)) (by kernel_rfl) (by kernel_rfl) (by kernel_rfl)
  obtain ⟨u1, u2, rfl⟩ := args2 hu
  refine fn_enter (l := [("numbers", some (.ref a)), ("lack", some (.int lack)), ("values", none), ("x", none), ("k", none)]) (vs := [u1, u2]) FF hA G hu rfl (Bd.of_eq (by kernel_rfl)) rfl fun env h₁ E Z G' hR => ?_
  refine x_assign' (w_List (w_args_nil (w_newList Z (by decide) fun o h₂ Z₂ => w_store Z₂ rfl (by repeat' with_reducible constructor) fun h₃ Z₃ => ?_)))
  refine x_forX (fun h' => St env h [("numbers", some (.ref a)), ("lack", some (.int lack)), ("values", some (.ref o)), ("x", none), ("k", none)] [(o, .list ((lvAll ns).map PV.int))] h') ?_ ?_
  · intro S kS
    refine Pe.useR (by tm_at "pe") ?_
    refine w_iter_list Z₃ (Own.keeps Z₃.keep (by assumption)) fun it h₄ Z₄ => ?_
    refine w_forN ns.length (fun i h' => St env h [("numbers", some (.ref a)), ("lack", some (.int lack)), ("values", some (.ref o)), ("x", none), ("k", none)] [(it, lit a i), (o, .list ((lvAll (ns.take i)).map PV.int))] h') ?_ ?_ (by rw [List.take_zero]; exact Z₄)
    · rintro i h₅ hi Z R kR
      obtain ⟨x, hx⟩ : ∃ x, ns[i]? = some x := ⟨ns[i], List.getElem?_eq_getElem hi⟩
      rw [lvAll_take hx] at kR
      have hlen := lvAll_len (ns.take i)
      rw [List.length_take] at hlen
      generalize lvAll (ns.take i) = acc at *
      revert acc
      refine blk ?_
      intro acc Z kR hlen
      refine next_list Z (by repeat' with_reducible constructor) (by repeat' with_reducible constructor) (Own.keeps Z.keep (by assumption)) (p := .int x) (by rw [List.getElem?_map, hx]; rfl) fun v h₆ hv Z₆ => ⟨v, rfl, w_store Z₆ hv (by repeat' with_reducible constructor) fun h₇ Z₇ => ?_⟩
      clear Z Z₆
      refine x_forX (fun h' => St env h [("numbers", some (.ref a)), ("lack", some (.int lack)), ("values", some (.ref o)), ("x", some (.int x)), ("k", none)] [(it, lit a (i + 1)), (o, .list ((lvNum acc x).map PV.int))] h') ?_ ?_
      · intro S kS
        have G7 := G.keeps Z₇.keep
        refine w_call_ty (gl_bootE G7 E (by kernel_rfl) boot_range (by decide +kernel) (by kernel_rfl)) (w_args_cons (Pe.use (by tm_at "pe") fun v hv => w_args_nil (w_range1 Z₇ hv fun r h₈ Z₈ => ?_)))
        refine w_iter_range Z₈ (Z₈.get .here) (by decide +kernel) fun it2 h₉ Z₉ => ?_
        have Z₁₀ := Z₉.swap.drop
        rw [show Builtin.Range.rangeSize 0 4 1 = 4 from by decide +kernel] at Z₁₀
        clear Z₉ Z₈ Z₇
        refine w_forN 4 (fun j h' => St env h [("numbers", some (.ref a)), ("lack", some (.int lack)), ("values", some (.ref o)), ("x", some (.int x)), ("k", none)] [(it2, ritO j (4 - j) 1), (it, lit a (i + 1)), (o, .list ((lvSteps acc x j).map PV.int))] h') ?_ ?_ Z₁₀
        · rintro j h₁₁ hj Z R kR
          refine next_range Z (by repeat' with_reducible constructor) (by repeat' with_reducible constructor) (by lia) fun v h₁₂ hv Z₁₂ => ⟨v, rfl, w_store Z₁₂ hv (by repeat' with_reducible constructor) fun h₁₃ Z₁₃ => ?_⟩
          clear Z Z₁₂
          have hsl := lvSteps_len acc x j
          refine x_expr (w_mcall (Pe.useR (by tm_at "pe") ?_)) E.inter
          refine ⟨_, _, mt_list (Z₁₃.get (by repeat' with_reducible constructor)) slot_list_append F.type_list_append, ?_⟩
          refine w_callWith ?_
          refine w_args_cons ?_
          have G13 := G.keeps Z₁₃.keep
          refine w_index (w_Tuple (w_args_cons (Pe.use (by tm_at "pe") fun v1 hv1 => w_args_cons (Pe.use (by tm_at "pe") fun v2 hv2 => w_args_cons (Pe.use (e_add (e_len (gl_bootE G13 E (by kernel_rfl) boot_len (by decide +kernel) (by kernel_rfl)) (by tm_at "pe") (Z₁₃.get (by repeat' with_reducible constructor)) (by simp; lia)) (by tm_at "pe")) fun v3 hv3 => w_args_nil ?_)))))
          refine w_newTuple Z₁₃ (by first | decide | simp [sizeLine]) fun tp h₁₄ Z₁₄ => ?_
          have hpow : (3 : Int) ^ (j : Int).toNat ≠ 0 ∧ ((3 : Int) ^ (j : Int).toNat).natAbs < 1073741824 := by
            rw [Int.toNat_natCast]
            rcases (by lia : j = 0 ∨ j = 1 ∨ j = 2 ∨ j = 3) with rfl | rfl | rfl | rfl <;> decide
          refine ⟨_, e_mod (e_floordiv (by tm_at "pe") (e_pow (by tm_at "pe") (by tm_at "pe") (by exact Int.natCast_nonneg _) ?_) hpow.1 hpow.2) (by tm_at "pe"), fun u => ?_⟩
          · have : (Builtin.Int.intBits 3 : Int) = 2 := by decide +kernel
            rw [this]; lia
          have hdig : (x.fdiv (3 ^ (j : Int).toNat)).fmod 3 = lvDig x j := by rw [Int.toNat_natCast]; rfl
          rw [hdig]
          have hd := lvDig_cases x j
          have hp : ([v1, v2, v3].map pv)[(lvDig x j).toNat]? = some (.int (if lvDig x j = 0 then 62 else if lvDig x j = 1 then 63 else ((lvSteps acc x j).length : Int) + 1)) := by
            simp only [List.map_cons, List.map_nil, hv1, hv2, hv3, List.length_map]
            rcases hd with e | e | e <;> rw [e] <;> rfl
          refine w_tailTup (Z₁₄.get .here) (by lia) (by lia) hp fun v hv => w_args_nil ?_
          have Z₁₅ := Z₁₄.drop
          refine w_append Z₁₅ hv (by repeat' with_reducible constructor) (by repeat' with_reducible constructor) (by first | exact szm (by lia) | exact sz (by lia) | (simp [sizeLine]; lia)) fun h₁₆ Z₁₆ => ⟨(fun _ z => nomatch z), x_nil (kR <| lp_next ?_)⟩
          rw [show (j : Int) + 1 = ((j + 1 : Nat) : Int) by exact (Int.natCast_succ _).symm, show (4 : Int) - j - 1 = 4 - ((j + 1 : Nat) : Int) by lia] at Z₁₆
          have e : (lvSteps acc x (j + 1)).map PV.int = (lvSteps acc x j).map PV.int ++ [.int (if lvDig x j = 0 then 62 else if lvDig x j = 1 then 63 else ((lvSteps acc x j).length : Int) + 1)] := by simp [lvSteps, lvOne]
          rw [e]; exact Z₁₆.wk (by repeat' first | with_reducible constructor | refine' Wk.keep ?_)
        · rintro h₁₁ Z
          refine next_range_end hR.h Z (by lia) fun h₁₂ Z₁₂ => ⟨rfl, kS <| sx_next ?_⟩
          exact Z₁₂
      · rintro h₈ Z
        exact x_nil (kR <| lp_next (Z.wk (by repeat' first | with_reducible constructor | refine' Wk.keep ?_)))
    · rintro h₅ Z
      rw [List.take_length] at Z
      exact next_list_end hR.h Z (Own.keeps Z.keep (by assumption)) (by simp) fun h₆ Z₆ => ⟨rfl, kS <| sx_next Z₆⟩
  · rintro h₄ Z
    clear Z₃
    have hlen := lvAll_len ns
    show Wp C _ _ _ _
    unfold lawValues at k
    generalize lvAll ns = vs at *
    revert vs
    refine blk ?_
    intro vs k Z hlen
    have G4 := G.keeps Z.keep
    have elo : ((vs.map PV.int).length : Int) - lack = ((vs.length - lack : Nat) : Int) := by simp; lia
    refine x_assignW (w_subscript (Pe.useR (by tm_at "pe") ?_))
    refine w_sliceTail (lo := none) (hi := some ((vs.length - lack : Nat) : Int)) (st := none) Z (Z.get .here) trivial (by rw [← elo]; exact e_sub (e_len (gl_bootE G4 E (by kernel_rfl) boot_len (by decide +kernel) (by kernel_rfl)) (by tm_at "pe") (Z.get .here) (by simp; lia)) (by tm_at "pe")) trivial (by decide) (by first | exact szm (by lia) | exact sz (by lia) | (simp [sizeLine]; lia)) fun r h₅ Z₅ => ?_
    rw [pick_upto, ← List.map_take] at Z₅
    have hws : (vs.take (vs.length - lack)).length = vs.length - lack := by simp
    refine ⟨.ref r, _, _, _, _, rfl, Z₅, (by repeat' with_reducible constructor), fun h₆ Z₆ => ?_⟩
    clear Z₅ Z
    have hend : lvEnd vs lack = (vs.take (vs.length - lack)).dropLast ++ [((vs.take (vs.length - lack)).getLastD 0).fdiv (4 ^ lack) * 4 ^ lack] := rfl
    rw [hend] at k
    generalize vs.take (vs.length - lack) = ws at *
    revert ws
    refine blk ?_
    intro ws k hws Z₆ hend
    have G6 := G.keeps Z₆.keep
    refine x_ret' (w_BinOp2 (w_subscript (Pe.useR (by tm_at "pe") ?_)))
    refine w_sliceTail (lo := none) (hi := some (-1)) (st := none) Z₆ (Z₆.get .here) trivial ?_ trivial (by decide) (by first | exact szm (by lia) | exact sz (by lia) | (simp [sizeLine]; lia)) fun r2 h₇ Z₇ => ?_
    · exact e_neg (by tm_at "pe")
    rw [pick_init] at Z₇
    have hp4 : ∀ m : Nat, m < 3 → (4 : Int) ^ (m : Int).toNat ≠ 0 ∧ ((4 : Int) ^ (m : Int).toNat).natAbs < 1073741824 := fun m hm => by
      rw [Int.toNat_natCast]
      rcases (by lia : m = 0 ∨ m = 1 ∨ m = 2) with rfl | rfl | rfl <;> decide
    have hb4 : (Builtin.Int.intBits 4 : Int) * (lack : Int) ≤ 2 ^ 27 := by
      have : (Builtin.Int.intBits 4 : Int) = 3 := by decide +kernel
      rw [this]; lia
    have hlast : (ws.map PV.int)[(((ws.length - 1 : Nat) : Int)).toNat]? = some (.int (ws.getLastD 0)) := by
      rw [Int.toNat_natCast, List.getElem?_map, List.getLastD_eq_getLast?, List.getLast?_eq_getElem?]
      rw [List.getElem?_eq_getElem (by lia)]; rfl
    refine w_List (w_args_cons (Pe.use (e_mul (e_floordiv (e_itemN (by tm_at "pe") (e_neg (by tm_at "pe")) (Z₇.get (by repeat' with_reducible constructor)) (j := (ws.length - 1 : Nat)) ?_ (by exact Int.natCast_nonneg _) (by simp; lia) hlast) (e_pow (by tm_at "pe") (by tm_at "pe") (by exact Int.natCast_nonneg _) hb4) (hp4 lack hl).1 (hp4 lack hl).2) (e_pow (by tm_at "pe") (by tm_at "pe") (by exact Int.natCast_nonneg _) hb4) ?_) fun v hv => w_args_nil ?_))
    · rw [if_pos (by decide), List.length_map]; lia
    · exact IntMulOk.of_right (intBits_le_64 (by have := hp4 lack hl; lia) (by have := hp4 lack hl; lia))
    refine w_newList Z₇ (by first | decide | simp [sizeLine]) fun r3 h₈ Z₈ => ?_
    refine w_addList Z₈ (Z₈.get (by repeat' with_reducible constructor)) (Z₈.get .here) (by first | exact szm (by exact Nat.le_trans (by assumption) (by decide)) | exact sz (by lia) | (simp [sizeLine]; lia)) fun r4 h₉ Z₉ => ?_
    ((repeat with_reducible refine sq_ret ?_); with_reducible refine fq_ret ?_)
    refine k r4 h₉ Z₉.keep ?_ (Z₉.fresh _ (.head _))
    have := Z₉.get .here
    simp only [List.map_cons, List.map_nil, hv, Int.toNat_natCast] at this
    simpa [List.map_dropLast, List.dropLast_eq_take] using this

set_option maxHeartbeats 400000
theorem law_octets_spec {C : Cx} {A : Around} {h : Heap} {P : Params} {n : Nat} {us : List Value} {a : Addr} {vs : List Int} {lack m : Nat} {Q : Value → Heap → Prop} (hA : Rm (n + 1) A) (G : Gd (hd.heap_39 P) h)
    (hu : us.map pv = [.ref a, .int lack]) (o : Own h a (.list (vs.map PV.int))) (hv : ∀ v ∈ vs, 0 ≤ v ∧ v < 64) (hm : vs.length + lack = 4 * m) (hm2 : m ≤ 1000) (hl : lack < 3)
    (k : ∀ v h', Keeps h h' → pv v = .bytes (byteArr ((octAll (vs ++ [0, 0]) m).take (3 * m - lack))) → Q v h') : Cp C A (.call (.ref 218) ⟨us, []⟩) (fun fl h' => ∃ v, fl = .ret v ∧ Q v h') h := by
  have FF := Fn.mk (K := hd.heap_39 P) (f := 218) (xs := ["values", "lack"]) (ys := ["octets", "k", "number", "value"]) (by kernel_rfl) (fn_body (by k_is) (by exact rfl)) (by kernel_rfl) (by kernel_rfl) (fun _ => LocK.of (by kernel_rfl) (by kernel_rfl) (by decide +kernel)) (by kernel_rfl) (by kernel_rfl) (by kernel_rfl)
  obtain ⟨u1, u2, rfl⟩ := args2 hu
  refine fn_enter (l := [("values", some (.ref a)), ("lack", some (.int lack)), ("octets", none), ("k", none), ("number", none), ("value", none)]) (vs := [u1, u2]) FF hA G hu rfl (Bd.of_eq (by kernel_rfl)) rfl fun env h₁ E Z G' hR => ?_
  refine x_assign' (w_List (w_args_nil (w_newList Z (by decide) fun o h₂ Z₂ => w_store Z₂ rfl (by repeat' with_reducible constructor) fun h₃ Z₃ => ?_)))
  clear Z Z₂
  refine x_forX (fun h' => St env h [("values", some (.ref a)), ("lack", some (.int lack)), ("octets", some (.ref o)), ("k", none), ("number", none), ("value", none)] [(o, .list ((octAll (vs ++ [0, 0]) m).map PV.int))] h') ?_ ?_
  · intro S kS
    have G3 := G.keeps Z₃.keep
    have ol := Own.keeps Z₃.keep (by assumption)
    refine w_call_ty (gl_bootE G3 E (by kernel_rfl) boot_range (by decide +kernel) (by kernel_rfl)) (w_args_cons (Pe.use (by tm_at "pe") fun v1 hv1 => w_args_cons (Pe.use (e_len (gl_bootE G3 E (by kernel_rfl) boot_len (by decide +kernel) (by kernel_rfl)) (by tm_at "pe") ol (by simp; lia)) fun v2 hv2 => w_args_cons (Pe.use (by tm_at "pe") fun v3 hv3 => w_args_nil ?_))))
    refine w_range3 Z₃ hv1 hv2 hv3 (by decide) (by decide) fun r h₈ Z₈ => ?_
    have hsz : Builtin.Range.rangeSize 0 ((vs.map PV.int).length : Int) 4 = m := by
      rw [List.length_map]
      unfold Builtin.Range.rangeSize
      rw [if_pos (by decide)]
      split <;> lia
    refine w_iter_range Z₈ (Z₈.get .here) (rng_small (by decide) (by simp; lia) (by decide) (by rw [hsz]; lia)) fun it h₉ Z₉ => ?_
    rw [hsz] at Z₉
    have Z₁₀ := Z₉.swap.drop
    clear Z₉ Z₈ Z₃ G3 ol
    refine w_forN m (fun i h' => St env h [("values", some (.ref a)), ("lack", some (.int lack)), ("octets", some (.ref o)), ("k", none), ("number", none), ("value", none)] [(it, ritO ((4 * i : Nat) : Int) ((m - i : Nat) : Int) 4), (o, .list ((octAll (vs ++ [0, 0]) i).map PV.int))] h') ?_ ?_ Z₁₀
    · rintro i h₅ hi Z R kR
      have hlen := octAll_len (vs ++ [0, 0]) i
      rw [octAll_c] at kR
      generalize octAll (vs ++ [0, 0]) i = acc at *
      revert acc
      refine blk ?_
      intro acc Z kR hlen
      refine next_range Z (by repeat' with_reducible constructor) (by repeat' with_reducible constructor) (by lia) fun v h₆ hv Z₆ => ⟨v, rfl, w_store Z₆ hv (by repeat' with_reducible constructor) fun h₇ Z₇ => ?_⟩
      rw [show ((4 * i : Nat) : Int) + 4 = ((4 * (i + 1) : Nat) : Int) by lia, show ((m - i : Nat) : Int) - 1 = ((m - (i + 1) : Nat) : Int) by lia] at Z₇
      clear Z Z₆
      refine x_assign Z₇ (by tm_at "pe") (by repeat' with_reducible constructor) fun h₈ Z₈ => ?_
      clear Z₇
      refine x_forX (fun h' => St env h [("values", some (.ref a)), ("lack", some (.int lack)), ("octets", some (.ref o)), ("k", some (.int ((4 * i : Nat) : Int))), ("number", some (.int (octNum (((vs ++ [0, 0]).drop (4 * i)).take 4)))), ("value", none)] [(it, ritO ((4 * (i + 1) : Nat) : Int) ((m - (i + 1) : Nat) : Int) 4), (o, .list (acc.map PV.int))] h') ?_ ?_
      · intro S kS
        refine w_subscript (w_BinOp2 (Pe.useR (by tm_at "pe") ?_))
        refine w_listP (ps := [.int 0, .int 0]) Z₈ (ps_cons (by tm_at "pe") (ps_cons (by tm_at "pe") ps_nil)) fun r1 h₉ Z₉ => ?_
        refine w_addList Z₉ (Own.keeps Z₉.keep (by assumption)) (Z₉.get .here) (by first | exact szm (by lia) | exact sz (by lia) | (simp [sizeLine]; lia)) fun r2 h₁₀ Z₁₀ => ?_
        have Z₁₁ := Z₁₀.swap.drop
        have epad : vs.map PV.int ++ [PV.int 0, PV.int 0] = (vs ++ [0, 0]).map PV.int := by simp
        rw [epad] at Z₁₁
        clear Z₉ Z₁₀ Z₈
        refine w_sliceTail (lo := some ((4 * i : Nat) : Int)) (hi := some ((4 * i + 4 : Nat) : Int)) (st := none) Z₁₁ (Z₁₁.get .here) (show Pe _ _ _ _ _ _ from (by tm_at "pe")) (show Pe _ _ _ _ _ _ by rw [show ((4 * i + 4 : Nat) : Int) = ((4 * i : Nat) : Int) + 4 by lia]; tm_at "pe") trivial (by decide) (by first | exact szm (by lia) | exact sz (by lia) | (simp [sizeLine]; lia)) fun r3 h₁₂ Z₁₂ => ?_
        rw [pick_run _ _ _ (by simp; lia) (by exact Nat.le_add_right _ _), ← List.map_drop, ← List.map_take, show 4 * i + 4 - 4 * i = 4 by lia] at Z₁₂
        have Z₁₃ := Z₁₂.swap.drop
        clear Z₁₁ Z₁₂
        refine w_iter_list Z₁₃ (Z₁₃.get .here) fun it2 h₁₄ Z₁₄ => ?_
        have hwl : (((vs ++ [0, 0]).drop (4 * i)).take 4).length = 4 := by simp; lia
        have hwb : ∀ v ∈ ((vs ++ [0, 0]).drop (4 * i)).take 4, 0 ≤ v ∧ v < 64 := fun v hm => by
          have := List.mem_of_mem_drop (List.mem_of_mem_take hm)
          simp only [List.mem_append, List.mem_cons, List.not_mem_nil, or_false, or_self] at this
          rcases this with e | e
          · exact (by assumption : ∀ v ∈ vs, 0 ≤ v ∧ v < 64) v e
          · lia
        generalize ((vs ++ [0, 0]).drop (4 * i)).take 4 = ws at *
        revert ws
        refine blk ?_
        intro ws S kS Z₁₃ Z₁₄ hwl hwb
        refine w_forN 4 (fun j h' => St env h [("values", some (.ref a)), ("lack", some (.int lack)), ("octets", some (.ref o)), ("k", some (.int ((4 * i : Nat) : Int))), ("number", some (.int (octNum (ws.take j)))), ("value", none)] [(it2, lit r3 j), (r3, .list (ws.map PV.int)), (it, ritO ((4 * (i + 1) : Nat) : Int) ((m - (i + 1) : Nat) : Int) 4), (o, .list (acc.map PV.int))] h') ?_ ?_ (by rw [List.take_zero]; exact Z₁₄)
        · rintro j h₁₅ hj Z R kR
          obtain ⟨w, hw⟩ : ∃ w, ws[j]? = some w := ⟨ws[j], List.getElem?_eq_getElem (by lia)⟩
          refine next_list Z (by repeat' with_reducible constructor) (by repeat' with_reducible constructor) (Z.get (by repeat' with_reducible constructor)) (p := .int w) (by rw [List.getElem?_map, hw]; rfl) fun v h₁₆ hv Z₁₆ => ⟨v, rfl, w_store Z₁₆ hv (by repeat' with_reducible constructor) fun h₁₇ Z₁₇ => ?_⟩
          refine x_assign Z₁₇ (by tm_at "pe") (by repeat' with_reducible constructor) fun h₁₈ Z₁₈ => x_nil (kR <| lp_next ?_)
          rw [octNum_take hw]; exact Z₁₈.wk (by repeat' first | with_reducible constructor | refine' Wk.keep ?_)
        · rintro h₁₅ Z
          rw [List.take_of_length_le (by lia)] at Z
          refine next_list_end hR.h Z (Z.get (by repeat' with_reducible constructor)) (by simp; lia) fun h₁₆ Z₁₆ => ⟨rfl, kS <| sx_next Z₁₆.drop⟩
      · rintro h₉ Z
        refine x_mcall (Pe.useR (by tm_at "pe") ?_) E.inter
        refine ⟨_, _, mt_list (Z.get (by repeat' with_reducible constructor)) PySem.F.slot_list_extend PySem.F.type_list_extend, ?_⟩
        refine w_callWith ?_
        refine w_args_cons (w_listP Z (ps_cons (by tm_at "pe") (ps_cons (by tm_at "pe") (ps_cons (by tm_at "pe") ps_nil))) fun r1 h₁₀ Z₁₀ => w_args_nil ?_)
        refine w_extend Z₁₀ (by repeat' with_reducible constructor) (by repeat' with_reducible constructor) (Z₁₀.get .here) (by first | exact szm (by lia) | exact sz (by lia) | (simp [sizeLine]; lia)) fun h₁₁ Z₁₁ => ⟨(fun _ z => nomatch z), x_nil (kR <| lp_next ?_)⟩
        have e : (acc ++ octThree (octNum (((vs ++ [0, 0]).drop (4 * i)).take 4))).map PV.int = acc.map PV.int ++ [.int ((octNum (((vs ++ [0, 0]).drop (4 * i)).take 4)).fdiv 65536), .int (((octNum (((vs ++ [0, 0]).drop (4 * i)).take 4)).fdiv 256).fmod 256), .int ((octNum (((vs ++ [0, 0]).drop (4 * i)).take 4)).fmod 256)] := by simp [octThree]
        rw [e]
        exact Z₁₁.drop.wk (by repeat' first | with_reducible constructor | refine' Wk.keep ?_)
    · rintro h₅ Z
      exact next_range_end hR.h Z (by lia) fun h₆ Z₆ => ⟨rfl, kS <| sx_next Z₆⟩
  · rintro h₄ Z
    clear Z₃
    have hlen := octAll_len (vs ++ [0, 0]) m
    have hbd := octAll_bd (pad := vs ++ [0, 0]) (fun v hm => by
      simp only [List.mem_append, List.mem_cons, List.not_mem_nil, or_false, or_self] at hm
      rcases hm with e | e
      · exact hv v e
      · lia) m
    generalize octAll (vs ++ [0, 0]) m = acc at *
    have G4 := G.keeps Z.keep
    have elo : ((acc.map PV.int).length : Int) - lack = ((3 * m - lack : Nat) : Int) := by simp; lia
    refine x_ret' (w_call_ty (gl_bootE G4 E (by kernel_rfl) boot_bytes (by decide +kernel) (by kernel_rfl)) (w_args_cons (w_subscript (Pe.useR (by tm_at "pe") ?_))))
    refine w_sliceTail (lo := none) (hi := some ((3 * m - lack : Nat) : Int)) (st := none) Z (Z.get .here) trivial (by rw [← elo]; exact e_sub (e_len (gl_bootE G4 E (by kernel_rfl) boot_len (by decide +kernel) (by kernel_rfl)) (by tm_at "pe") (Z.get .here) (by simp; lia)) (by tm_at "pe")) trivial (by decide) (by first | exact szm (by lia) | exact sz (by lia) | (simp [sizeLine]; lia)) fun r h₅ Z₅ => ?_
    rw [pick_upto, ← List.map_take] at Z₅
    refine w_args_nil (w_bytes hR.h (Z₅.get .here) (fun v hm => hbd v (List.mem_of_mem_take hm)) (by first | exact szm (by lia) | exact sz (by lia) | (simp [sizeLine]; lia)) fun v h₆ hv k6 => ?_)
    ((repeat with_reducible refine sq_ret ?_); with_reducible refine fq_ret ?_)
    exact k v h₆ (Z₅.keep.trans k6) hv

set_option maxHeartbeats 400000
noncomputable def lcTwos (vs : List Int) : List (List Int) := (List.range (vs.length - 1)).map fun k => (vs.drop k).take 2
noncomputable def lcSl (vs : List Int) (rs : List Addr) : List (Addr × AO) := rs.zipIdx.map fun x => (x.1, .list (((vs.drop x.2).take 2).map PV.int))
theorem lcSl_snoc (vs : List Int) (rs : List Addr) (r : Addr) : lcSl vs (rs ++ [r]) = lcSl vs rs ++ [(r, .list (((vs.drop rs.length).take 2).map PV.int))] := by
  simp [lcSl, List.zipIdx_append]
theorem perm_last {α : Type} (x a b c d : α) (r : List α) : (x :: a :: b :: c :: d :: r).Perm (a :: b :: c :: d :: (r ++ [x])) := by
  have := (List.perm_append_comm (l₁ := [x]) (l₂ := a :: b :: c :: d :: r))
  simpa using this
noncomputable def lcHead (vs : List Int) (x : Int) : Int := if vs.getD 0 0 = x then 1 else 0
theorem boolInt (b : Prop) [Decidable b] : (if decide b then (1 : Int) else 0) = if b then 1 else 0 := by by_cases h : b <;> simp [h]
theorem lcSl_get {vs : List Int} {rs : List Addr} {i : Nat} {r : Addr} (h : rs[i]? = some r) : (r, AO.list (((vs.drop i).take 2).map PV.int)) ∈ lcSl vs rs := by
  unfold lcSl
  refine List.mem_map.mpr ⟨(r, i), ?_, rfl⟩
  rw [List.mem_zipIdx_iff_getElem?]; exact h
theorem countP_ints (vs : List Int) (x : Int) : (vs.map PV.int).countP (fun p => eqPV p (.int x)) = vs.count x := by
  rw [List.countP_map]; unfold List.count; congr 1
theorem count_dec (ts : List (List Int)) (x : List Int) : (ts.map fun t => decide (t = x)).count true = ts.count x := by
  induction ts with
  | nil => rfl
  | cons t ts ih => rw [List.map_cons, List.count_cons, List.count_cons, ih]; by_cases e : t = x <;> simp [e]
theorem law_counts_spec {C : Cx} {A : Around} {h : Heap} {P : Params} {n : Nat} {us : List Value} {a : Addr} {vs : List Int} {Q : Value → Heap → Prop} (hA : Rm (n + 2) A) (G : Gd (hd.heap_39 P) h)
    (hu : us.map pv = [.ref a]) (o : Own h a (.list (vs.map PV.int))) (hv : 0 < vs.length) (hm : vs.length ≤ 1000)
    (k : ∀ t a1 a2 a3 h', New h h' [(t, .tup [.ref a1, .ref a2, .ref a3]), (a2, .list [.int ((lcTwos vs).count [63, 62] : Nat), .int ((lcTwos vs).count [62, 63] : Nat)]), (a1, .list [.int (vs.count 62 : Nat), .int (vs.count 63 : Nat)]), (a3, .list [.int (lcHead vs 62), .int (lcHead vs 63)])] → Q (.ref t) h') :
    Cp C A (.call (.ref 223) ⟨us, []⟩) (fun fl h' => ∃ v, fl = .ret v ∧ Q v h') h := by
  have FF := FnC.mk (K := hd.heap_39 P) (f := 223) (xs := ["values"]) (ks := ["twos", "heads"]) (zs := ["values"]) (by kernel_rfl) (fn_body (by k_is) (by exact rfl)) (by kernel_rfl) (by kernel_rfl) (fun _ => LocK.of (by kernel_rfl) (by kernel_rfl) (by decide +kernel)) (by decide +kernel) (by kernel_rfl) (by decide +kernel) (by kernel_rfl) (by kernel_rfl) (by kernel_rfl) (by kernel_rfl)
  obtain ⟨u, rfl, hu1⟩ := x_one hu
  refine fnC_enter (l := [("twos", none), ("heads", none)]) (cs := fun L => [(L + 1, celO (some (.ref a)))]) (vs := [u]) FF hA G hu rfl (Bd.of_eq (by kernel_rfl)) (by kernel_rfl) (fun L => by kernel_rfl) fun L h₁ Z G' hR => ?_
  have hz2 : (vs.map PV.int).length ≤ 1000 := by simp; exact hm
  refine x_assignComp (h₀ := h) (l := [("twos", none), ("heads", none)]) (cl := [("values", L + 1)]) (ks := ["k"]) (by kernel_rfl) rfl (by decide +kernel) (by decide +kernel) (fun _ => LocK.of (by kernel_rfl) (by kernel_rfl) (by decide +kernel)) ?_ (by kernel_rfl)
  · have vcell : ∀ {A : Around} {h'}, Own h' (L + 1) (celO (some (.ref a))) → Pe C A (callEnvC (fdOf (hd.heap_39 P) 223) L 223) h' (.Name (Str.ofString "values") ⟨0, 0, 0, 0⟩) (.ref a) := fun o => e_cell (by kernel_rfl) (by kernel_rfl) (by kernel_rfl) o
    have ol := Own.keeps Z.keep (by assumption)
    refine w_call_ty (gl_boot G' (by kernel_rfl) boot_range (by decide +kernel) (by kernel_rfl) (by kernel_rfl) (by kernel_rfl) (by kernel_rfl)) (w_args_cons (Pe.use (e_sub (e_len (gl_boot G' (by kernel_rfl) boot_len (by decide +kernel) (by kernel_rfl) (by kernel_rfl) (by kernel_rfl) (by kernel_rfl)) (e_cell (by kernel_rfl) (by kernel_rfl) (by kernel_rfl) (Z.get .here)) ol (by exact Nat.lt_of_le_of_lt (by assumption) (by decide))) (by tm_at "pe")) fun v hv0 => w_args_nil (w_range1 Z hv0 fun r h₂ Z₂ => ?_)))
    have hsz : Builtin.Range.rangeSize 0 (((vs.map PV.int).length : Int) - 1) 1 = ((vs.length - 1 : Nat) : Int) := by
      rw [List.length_map, rangeSize_up _ (by lia)]; lia
    refine w_iter_range Z₂ (Z₂.get .here) (rng_small (by decide) (by lia) (by decide) (by rw [hsz]; lia)) fun it h₃ Z₃ => ⟨_, Z₃.swap.drop, fun acc L' oL h₄ Z₄ => ?_⟩
    rw [hsz] at Z₄
    clear Z₃ Z₂
    refine cp_compStart (cp_compN (vs.length - 1) (fun i h' => ∃ rs, rs.length = i ∧ St _ h [("k", none)] (((callEnvC (fdOf (hd.heap_39 P) 223) L 223).locals, .raw oL) :: (acc, .list (rs.map PV.ref)) :: (it, ritO i ((vs.length - 1 - i : Nat) : Int) 1) :: (L + 1, celO (some (.ref a))) :: lcSl vs rs) h') ?_ ?_ 0 h₄ (Nat.zero_le _) ⟨[], rfl, Z₄⟩) (w_iter_rit (Z₄.get (by repeat' with_reducible constructor)) ⟨rfl, rfl⟩)
    · rintro i h₅ hi ⟨rs, hrs, Z⟩ J kJ
      refine next_range Z (by repeat' with_reducible constructor) (by repeat' with_reducible constructor) (by lia) fun v h₆ hv Z₆ => ⟨v, rfl, Wp.pure (w_assignName (w_store Z₆ hv (by repeat' with_reducible constructor) fun h₇ Z₇ => w_tests0 ?_))⟩
      first | refine ite_t ?_ | refine exs_t ?_ | refine ev_t ?_ | rw [if_pos rfl]
      refine w_subscript (Pe.useR (e_cell (by kernel_rfl) (by kernel_rfl) (by kernel_rfl) (Z₇.get (by repeat' with_reducible constructor))) ?_)
      refine w_sliceTail (lo := some (i : Int)) (hi := some ((i + 2 : Nat) : Int)) (st := none) Z₇ (Own.keeps Z₇.keep (by assumption)) (show Pe _ _ _ _ _ _ from (by tm_at "pe")) (show Pe _ _ _ _ _ _ by rw [show ((i + 2 : Nat) : Int) = (i : Int) + 2 by lia]; tm_at "pe") trivial (by decide) (by first | exact szm (by exact Nat.le_trans (by assumption) (by decide)) | exact sz (by lia) | (simp [sizeLine]; lia)) fun r h₈ Z₈ => ?_
      rw [pick_run _ _ _ (by simp; lia) (by exact Nat.le_add_right _ _), ← List.map_drop, ← List.map_take, show i + 2 - i = 2 by lia] at Z₈
      refine w_append Z₈ rfl (by repeat' with_reducible constructor) (by repeat' with_reducible constructor) (by first | exact szm (by lia) | exact sz (by lia) | (simp [sizeLine]; lia)) fun h₉ Z₉ => kJ ⟨rs ++ [r], by simp [hrs], ?_⟩
      have Z₁₀ := Z₉.perm (perm_last _ _ _ _ _ _)
      rw [lcSl_snoc, hrs, List.map_append]
      rw [show (i : Int) + 1 = ((i + 1 : Nat) : Int) by exact (Int.natCast_succ _).symm, show ((vs.length - 1 - i : Nat) : Int) - 1 = ((vs.length - 1 - (i + 1) : Nat) : Int) by lia] at Z₁₀
      exact Z₁₀.wk (by repeat' first | with_reducible constructor | refine' Wk.keep ?_)
    · rintro h₅ ⟨rs, hrs, Z⟩
      have Zp := Z.perm (((List.Perm.swap _ _ _).cons _).trans (List.Perm.swap _ _ _))
      refine next_range_end hR.h Zp (by lia) fun h₆ Z₆ => ⟨rfl, _, _, _, _, Z₆, (by repeat' with_reducible constructor), fun h₇ Z₇ => ?_⟩
      clear Zp Z Z₆ Z₄
      have G7 := G.keeps Z₇.keep
      have ol := Own.keeps Z₇.keep (by assumption : Own h a _)
      have h0 : (vs.map PV.int)[(0 : Int).toNat]? = some (.int (vs.getD 0 0)) := by
        rw [show (0 : Int).toNat = 0 from rfl, List.getElem?_map, List.getElem?_eq_getElem hv, List.getD_eq_getElem?_getD, List.getElem?_eq_getElem hv]; rfl
      refine x_assignW (w_List (w_args_cons ?_))
      refine w_call_ty (gl_boot G7 (by kernel_rfl) boot_int (by decide +kernel) (by kernel_rfl) (by kernel_rfl) (by kernel_rfl) (by kernel_rfl)) (w_args_cons (Pe.use (e_cmp (e_item (e_cell (by kernel_rfl) (by kernel_rfl) (by kernel_rfl) (Z₇.get (by repeat' with_reducible constructor))) (by tm_at "pe") ol (by decide) (by decide) h0) (by tm_at "pe") (by repeat' (show (_ : Prop); first | with_reducible refine' CmI.cm ?_ | with_reducible constructor | rfl))) fun v1 hv1 => w_args_nil (w_intBool hv1 fun v2 hv2 => w_args_cons ?_)))
      refine w_call_ty (gl_boot G7 (by kernel_rfl) boot_int (by decide +kernel) (by kernel_rfl) (by kernel_rfl) (by kernel_rfl) (by kernel_rfl)) (w_args_cons (Pe.use (e_cmp (e_item (e_cell (by kernel_rfl) (by kernel_rfl) (by kernel_rfl) (Z₇.get (by repeat' with_reducible constructor))) (by tm_at "pe") ol (by decide) (by decide) h0) (by tm_at "pe") (by repeat' (show (_ : Prop); first | with_reducible refine' CmI.cm ?_ | with_reducible constructor | rfl))) fun v3 hv3 => w_args_nil (w_intBool hv3 fun v4 hv4 => w_args_nil ?_)))
      rw [boolInt] at hv2 hv4
      refine w_newListE Z₇ (mp2 hv2 hv4) fun a3 h₈ Z₈ => ⟨.ref a3, _, _, _, _, rfl, Z₈, (by repeat' with_reducible constructor), fun h₉ Z₉ => ?_⟩
      clear Z₇ Z₈ G7 ol hv1 hv2 hv3 hv4
      as_aux_lemma =>
      have G9 := G.keeps Z₉.keep
      have ol := Own.keeps Z₉.keep (by assumption : Own h a _)
      have hcn : ∀ (x : Int) (A : Around) (h : Heap), ∀ p ∈ vs.map PV.int, Eqb C A h p (.int x) (eqPV p (.int x)) := fun x A h p hp => by
        obtain ⟨i, _, rfl⟩ := List.mem_map.mp hp
        exact eqb_int
      refine x_ret' (w_Tuple (w_args_cons (w_List (w_args_cons ?_))))
      refine w_mlist (e_cell (by kernel_rfl) (by kernel_rfl) (by kernel_rfl) (Z₉.get (by repeat' with_reducible constructor))) ol PySem.F.slot_list_count PySem.F.type_list_count (w_args_cons (Pe.use (by tm_at "pe") fun v1 hv1 => w_args_nil ?_))
      refine w_count ol hv1 (hcn 62 _ _) fun w1 hw1 => w_args_cons ?_
      refine w_mlist (e_cell (by kernel_rfl) (by kernel_rfl) (by kernel_rfl) (Z₉.get (by repeat' with_reducible constructor))) ol PySem.F.slot_list_count PySem.F.type_list_count (w_args_cons (Pe.use (by tm_at "pe") fun v2 hv2 => w_args_nil ?_))
      refine w_count ol hv2 (hcn 63 _ _) fun w2 hw2 => w_args_nil ?_
      rw [countP_ints] at hw1 hw2
      refine w_newListE Z₉ (mp2 hw1 hw2) fun a1 hA ZA => w_args_cons ?_
      clear Z₉ hw1 hw2 hv1 hv2 ol G9 hcn
      as_aux_lemma =>
      have hbl : ∀ x, ((lcTwos vs).map fun t => decide (t = x)).length = (rs.map PV.ref).length := fun x => by simp [lcTwos, hrs]
      have htw : ∀ (x : List Int) (A : Around) (h' : Heap) (b : Addr) (l cs : _), A.units < cLine → St (callEnvC (fdOf (hd.heap_39 P) 223) L 223) h l cs h' → (∀ p ∈ lcSl vs rs, p ∈ cs) → Own h' b (.list (x.map PV.int)) → ∀ (i : Nat) (p : PV) (c : Bool), (rs.map PV.ref)[i]? = some p → ((lcTwos vs).map fun t => decide (t = x))[i]? = some c → Eqb C A h' p (.ref b) c := fun x A h' b l cs hu Z hsub ob i p c hp hc => by
        rw [List.getElem?_map] at hp hc
        obtain ⟨r, hr, rfl⟩ := Option.map_eq_some_iff.mp hp
        obtain ⟨t, ht, rfl⟩ := Option.map_eq_some_iff.mp hc
        unfold lcTwos at ht
        rw [List.getElem?_map] at ht
        obtain ⟨j, hj, rfl⟩ := Option.map_eq_some_iff.mp ht
        have hji : j = i := by
          obtain ⟨_, e⟩ := List.getElem?_eq_some_iff.mp hj
          rw [List.getElem_range] at e; exact e.symm
        subst hji
        exact eqb_intsList hu (Z.own _ (hsub _ (lcSl_get hr))) ob
      have hu9 := (hR.in1).units
      refine w_List (w_args_cons ?_)
      refine w_mlist (by tm_at "pe") (ZA.get (by repeat' with_reducible constructor)) PySem.F.slot_list_count PySem.F.type_list_count (w_args_cons (w_listP ZA (ps_cons (by tm_at "pe") (ps_cons (by tm_at "pe") ps_nil)) fun b1 hB ZB => w_args_nil ?_))
      refine w_countB (ZB.get (by repeat' with_reducible constructor)) rfl (hbl [63, 62]) (htw [63, 62] _ _ b1 _ _ hu9 ZB (fun p hp => by simp [hp]) (ZB.get .here)) fun w3 hw3 => w_args_cons ?_
      replace ZB := ZB.drop
      clear ZA
      refine w_mlist (by tm_at "pe") (ZB.get (by repeat' with_reducible constructor)) PySem.F.slot_list_count PySem.F.type_list_count (w_args_cons (w_listP ZB (ps_cons (by tm_at "pe") (ps_cons (by tm_at "pe") ps_nil)) fun b2 hC ZC => w_args_nil ?_))
      refine w_countB (ZC.get (by repeat' with_reducible constructor)) rfl (hbl [62, 63]) (htw [62, 63] _ _ b2 _ _ hu9 ZC (fun p hp => by simp [hp]) (ZC.get .here)) fun w4 hw4 => w_args_nil ?_
      replace ZC := ZC.drop
      clear ZB
      rw [count_dec] at hw3 hw4
      refine w_newListE ZC (mp2 hw3 hw4) fun a2 hD ZD => w_args_cons (Pe.useR (by tm_at "pe") (w_args_nil ?_))
      refine w_newTuple ZD (by first | decide | simp [sizeLine]) fun tp hE ZE => ?_
      ((repeat with_reducible refine sq_ret ?_); with_reducible refine fq_ret ?_)
      refine k tp a1 a2 a3 hE ?_
      exact ZE.new.sub (List.IsPrefix.sublist ⟨_, rfl⟩)

set_option maxHeartbeats 400000
noncomputable def isEnd (x : Int) : Bool := decide (x = 10) || decide (x = 13)
noncomputable def lkEnds (m : Int) (x : Int) : Int := if isEnd x then m else 0
noncomputable def lkDots (hd b : Int) (x y : Int) : Int := if isEnd x then 0 else if x = 46 then hd + (if isEnd y then b else 0) else 0
noncomputable def lkCost (m0 m1 b0 b1 h0 h1 x y : Int) : Int × Bool :=
  if x = 13 ∧ y = 10 then (m0 + m1 - 2 * b1, decide (m0 + m1 - 2 * b1 = 0))
  else if x = 10 ∧ y = 13 then (m0 + m1 - 2 * b0, decide (m0 + m1 - 2 * b0 = 0))
  else (lkEnds m0 x + lkEnds m1 y + (lkDots h0 b0 x y + lkDots h1 b1 y x), decide (lkDots h0 b0 x y + lkDots h1 b1 y x = 0))
theorem law_cost_spec {C : Cx} {A : Around} {h : Heap} {P : Params} {n : Nat} {us : List Value} {t a1 a2 a3 : Addr} {al : Array UInt8} {x y m0 m1 b0 b1 h0 h1 : Int} {Q : Value → Heap → Prop} (hA : Rm (n + 2) A) (G : Gd (hd.heap_39 P) h)
    (hu : us.map pv = [.ref t, .bytes al]) (hal : KBw.bInts al = [x, y]) (hc1 : (x = 13 ∧ y = 10) ↔ al = #[13, 10]) (hc2 : (x = 10 ∧ y = 13) ↔ al = #[10, 13])
    (o : Own h t (.tup [.ref a1, .ref a2, .ref a3])) (o1 : Own h a1 (.list [.int m0, .int m1])) (o2 : Own h a2 (.list [.int b0, .int b1])) (o3 : Own h a3 (.list [.int h0, .int h1]))
    (k : ∀ r h', New h h' [(r, .tup [.int (lkCost m0 m1 b0 b1 h0 h1 x y).1, .bool (lkCost m0 m1 b0 b1 h0 h1 x y).2])] → Q (.ref r) h') :
    Cp C A (.call (.ref 230) ⟨us, []⟩) (fun fl h' => ∃ v, fl = .ret v ∧ Q v h') h := by
  have FF := Fn.mk (K := hd.heap_39 P) (f := 230) (xs := ["counts", "pair"]) (ys := ["many", "behind", "heads", "more", "ends", "dots", "j"]) (by kernel_rfl) (fn_body (by k_is) (by exact rfl)) (by kernel_rfl) (by kernel_rfl) (fun _ => LocK.of (by kernel_rfl) (by kernel_rfl) (by decide +kernel)) (by kernel_rfl) (by kernel_rfl) (by kernel_rfl)
  obtain ⟨u1, u2, rfl⟩ := args2 hu
  refine fn_enter (l := [("counts", some (.ref t)), ("pair", some (.bytes al)), ("many", none), ("behind", none), ("heads", none), ("more", none), ("ends", none), ("dots", none), ("j", none)]) (vs := [u1, u2]) FF hA G hu rfl (Bd.of_eq (by kernel_rfl)) rfl fun env h₁ E Z G' hR => ?_
  refine x_assignTup (Pe.useR (by tm_at "pe") ?_)
  refine w_unpack3 hR.h Z (Own.keeps Z.keep o) (by repeat' with_reducible constructor) (by repeat' with_reducible constructor) (by repeat' with_reducible constructor) fun h₂ Z₂ => ?_
  clear Z
  refine x_ifW (w_inTupP Z₂ (by tm_at "pe") (ps_cons e_bytes (ps_cons e_bytes ps_nil)) (by rfl) (by exact Nat.succ_ne_zero _) fun h₄ Z₄ => ?_)
  clear Z₂
  have hin : ([PV.bytes #[13, 10], PV.bytes #[10, 13]].any fun p => eqPV p (.bytes al)) = (decide (#[13, 10] = al) || decide (#[10, 13] = al)) := by
    show (decide (#[13, 10] = al) || (decide (#[10, 13] = al) || false)) = _
    rw [Bool.or_false]
  have ob := Own.keeps Z₄.keep o2
  have om := Own.keeps Z₄.keep o1
  have oh := Own.keeps Z₄.keep o3
  rw [show ([PV.bytes [13, 10].toArray, PV.bytes [10, 13].toArray].any fun p => eqPV p (.bytes al)) = (decide (#[13, 10] = al) || decide (#[10, 13] = al)) from hin]
  by_cases e12 : al = #[13, 10] ∨ al = #[10, 13]
  · obtain ⟨i, bx, hf, hi0, hi1, hbx, hco⟩ : ∃ i bx : Int, (∀ t u, bFind ⟨[.bytes al t, .bytes #[10] u], []⟩ = retInt i) ∧ 0 ≤ i ∧ i < 2 ^ 62 ∧ ([PV.int b0, PV.int b1])[i.toNat]? = some (.int bx) ∧ lkCost m0 m1 b0 b1 h0 h1 x y = (m0 + m1 - 2 * bx, decide (m0 + m1 - 2 * bx = 0)) := by
      rcases e12 with rfl | rfl
      · have e := hc1.mpr rfl
        exact ⟨1, b1, find_1310, by decide, by decide, rfl, by rw [lkCost, if_pos e]⟩
      · have e := hc2.mpr rfl
        exact ⟨0, b0, find_1013, by decide, by decide, rfl, by rw [lkCost, if_neg (by lia), if_pos e]⟩
    rw [hco] at k
    have e1 : (decide (#[13, 10] = al) || decide (#[10, 13] = al)) = true := by rcases e12 with rfl | rfl <;> simp
    rw [e1, if_pos rfl]
    refine x_assignW (w_BinOp2 (Pe.use (e_add (e_item (by tm_at "pe") (by tm_at "pe") om (by decide) (by decide) (p := .int m0) rfl) (e_item (by tm_at "pe") (by tm_at "pe") om (by decide) (by decide) (p := .int m1) rfl)) fun v2 hv2 => w_BinOp2 (Pe.use (by tm_at "pe") fun v3 hv3 => w_subscript (Pe.useR (by tm_at "pe") ?_))))
    refine w_mcall (Pe.use (by tm_at "pe") fun ov hov => ?_)
    refine ⟨_, _, mt_bytesR hov slot_bfind type_bfind, ?_⟩
    refine w_callWith ?_
    refine w_args_cons (e_bytes.use fun v5 hv5 => w_args_nil ?_)
    refine w_bfind hov hv5 hf fun v6 hv6 => ?_
    obtain ⟨t6, rfl⟩ := pv_int hv6
    refine w_tailList ob (j := i) (by rw [if_neg (by lia)]) hi0 (by simp) hbx fun v7 hv7 => ?_
    refine b_mul hv3 hv7 (.of_left (by decide)) fun v8 hv8 => b_sub hv2 hv8 fun v9 hv9 => ?_
    refine ⟨_, _, _, _, _, hv9, Z₄, (by repeat' with_reducible constructor), fun h₅ Z₅ => ?_⟩
    refine x_ret' (w_tupP Z₅ (ps_cons (by tm_at "pe") (ps_cons (e_cmp (by tm_at "pe") (by tm_at "pe") (by repeat' (show (_ : Prop); first | with_reducible refine' CmI.cm ?_ | with_reducible constructor | rfl))) ps_nil)) fun r h₆ Z₆ => ?_)
    ((repeat with_reducible refine sq_ret ?_); with_reducible refine fq_ret ?_)
    exact k r h₆ Z₆.new
  · have hco : lkCost m0 m1 b0 b1 h0 h1 x y = (lkEnds m0 x + lkEnds m1 y + (lkDots h0 b0 x y + lkDots h1 b1 y x), decide (lkDots h0 b0 x y + lkDots h1 b1 y x = 0)) := by
      rw [lkCost, if_neg (fun z => e12 (.inl (hc1.mp z))), if_neg (fun z => e12 (.inr (hc2.mp z)))]
    rw [hco] at k
    have e1 : (decide (#[13, 10] = al) || decide (#[10, 13] = al)) = false := by
      rw [decide_eq_false (fun z => e12 (.inl z.symm)), decide_eq_false (fun z => e12 (.inr z.symm))]; rfl
    rw [e1, if_neg Bool.false_ne_true]
    refine x_done (x_assign Z₄ (by tm_at "pe") (by repeat' with_reducible constructor) fun h₅ Z₅ => x_assign Z₅ (by tm_at "pe") (by repeat' with_reducible constructor) fun h₆ Z₆ => ?_)
    clear Z₄ Z₅
    refine x_forX (fun h' => St env h [("counts", some (.ref t)), ("pair", some (.bytes al)), ("many", some (.ref a1)), ("behind", some (.ref a2)), ("heads", some (.ref a3)), ("more", none), ("ends", some (.int (lkEnds m0 x + lkEnds m1 y))), ("dots", some (.int (lkDots h0 b0 x y + lkDots h1 b1 y x))), ("j", none)] [] h') ?_ ?_
    · intro S kS
      refine w_tupP Z₆ (ps_cons (by tm_at "pe") (ps_cons (by tm_at "pe") ps_nil)) fun tp h₇ Z₇ => ?_
      refine w_iter_tup Z₇ (Z₇.get .here) fun it h₈ Z₈ => ?_
      refine w_forN 2 (fun i h' => St env h [("counts", some (.ref t)), ("pair", some (.bytes al)), ("many", some (.ref a1)), ("behind", some (.ref a2)), ("heads", some (.ref a3)), ("more", none), ("ends", some (.int ((if 1 ≤ i then lkEnds m0 x else 0) + (if 2 ≤ i then lkEnds m1 y else 0)))), ("dots", some (.int ((if 1 ≤ i then lkDots h0 b0 x y else 0) + (if 2 ≤ i then lkDots h1 b1 y x else 0)))), ("j", none)] [(it, tit tp i), (tp, .tup [.int 0, .int 1])] h') ?_ ?_ Z₈
      · rintro i h₉ hi Z R kR
        obtain ⟨xi, yi, mi, hdi, bi, f1, f2, f3, f4, f5, f6, f7, f8⟩ : ∃ xi yi mi hdi bi : Int, ([x, y])[(i : Int).toNat]? = some xi ∧ ([x, y])[(1 - (i : Int)).toNat]? = some yi ∧ ([PV.int m0, PV.int m1])[(i : Int).toNat]? = some (.int mi) ∧ ([PV.int h0, PV.int h1])[(i : Int).toNat]? = some (.int hdi) ∧ ([PV.int b0, PV.int b1])[(i : Int).toNat]? = some (.int bi) ∧ ([PV.int 0, PV.int 1])[i]? = some (.int i) ∧
            ((if 1 ≤ i + 1 then lkEnds m0 x else 0) + (if 2 ≤ i + 1 then lkEnds m1 y else 0)) = ((if 1 ≤ i then lkEnds m0 x else 0) + (if 2 ≤ i then lkEnds m1 y else 0)) + lkEnds mi xi ∧
            ((if 1 ≤ i + 1 then lkDots h0 b0 x y else 0) + (if 2 ≤ i + 1 then lkDots h1 b1 y x else 0)) = ((if 1 ≤ i then lkDots h0 b0 x y else 0) + (if 2 ≤ i then lkDots h1 b1 y x else 0)) + lkDots hdi bi xi yi := by
          rcases (by lia : i = 0 ∨ i = 1) with rfl | rfl
          · exact ⟨x, y, m0, h0, b0, rfl, rfl, rfl, rfl, rfl, rfl, by simp, by simp⟩
          · exact ⟨y, x, m1, h1, b1, rfl, rfl, rfl, rfl, rfl, rfl, by simp, by simp⟩
        rw [f7, f8] at kR
        generalize ((if 1 ≤ i then lkEnds m0 x else 0) + (if 2 ≤ i then lkEnds m1 y else 0)) = E at *
        generalize ((if 1 ≤ i then lkDots h0 b0 x y else 0) + (if 2 ≤ i then lkDots h1 b1 y x else 0)) = D at *
        clear f7 f8
        revert E D
        refine blk ?_
        intro E D Z kR
        refine next_tup Z (by repeat' with_reducible constructor) (by repeat' with_reducible constructor) (Z.get (by repeat' with_reducible constructor)) f6 fun v h₁₀ hv Z₁₀ => ⟨v, rfl, w_store Z₁₀ hv (by repeat' with_reducible constructor) fun h₁₁ Z₁₁ => ?_⟩
        clear Z Z₁₀ Z₈ Z₇ Z₆
        have hfit : (KBw.bInts al).length ≤ 1099511627776 := by rw [hal]; simp
        refine x_ifW (w_inTupP Z₁₁ (e_item_bytes (by tm_at "pe") (by tm_at "pe") hfit (by exact Int.natCast_nonneg _) (by rw [hal]; exact f1)) (ps_cons (by tm_at "pe") (ps_cons (by tm_at "pe") ps_nil)) (by rfl) (by exact Nat.succ_ne_zero _) fun h₁₃ Z₁₃ => ?_)
        clear Z₁₁
        as_aux_lemma =>
        have he : ∀ z : Int, ([PV.int 10, PV.int 13].any fun p => eqPV p (.int z)) = isEnd z := fun z => by
          show (decide ((10 : Int) = z) || (decide ((13 : Int) = z) || false)) = (decide (z = 10) || decide (z = 13))
          rw [Bool.or_false, decide_eq_decide.mpr (eq_comm (a := (10 : Int))), decide_eq_decide.mpr (eq_comm (a := (13 : Int)))]
        rw [he]
        have om' := Own.keeps Z₁₃.keep o1
        have ob' := Own.keeps Z₁₃.keep o2
        have oh' := Own.keeps Z₁₃.keep o3
        cases hxi : isEnd xi with
        | true =>
          first | refine ite_t ?_ | refine exs_t ?_ | refine ev_t ?_ | rw [if_pos rfl]
          refine x_aug Z₁₃ (by repeat' with_reducible constructor) (e_item (by tm_at "pe") (by tm_at "pe") om' (by exact Int.natCast_nonneg _) (by lia) f3) aug_add (by repeat' with_reducible constructor) fun h₁₄ Z₁₄ => x_done (x_nil (kR <| lp_next ?_))
          rw [show lkEnds mi xi = mi by simp [lkEnds, hxi], show lkDots hdi bi xi yi = 0 by simp [lkDots, hxi], Int.add_zero]
          exact Z₁₄.wk (by repeat' first | with_reducible constructor | refine' Wk.keep ?_)
        | false =>
          first | refine ite_f ?_ | refine exs_f ?_ | refine ev_f ?_ | rw [if_neg Bool.false_ne_true]
          have le0 : lkEnds mi xi = 0 := by simp [lkEnds, hxi]
          rw [le0, Int.add_zero] at kR
          refine x_if (t_cmp (e_item_bytes (by tm_at "pe") (by tm_at "pe") hfit (by exact Int.natCast_nonneg _) (by rw [hal]; exact f1)) (by tm_at "pe") (by repeat' (show (_ : Prop); first | with_reducible refine' CmI.cm ?_ | with_reducible constructor | rfl)) rfl) (fun e => ?_) (fun e => ?_)
          · simp only [decide_eq_true_eq] at e
            have ld : lkDots hdi bi xi yi = hdi + (if isEnd yi then bi else 0) := by rw [lkDots, hxi, if_neg Bool.false_ne_true, if_pos e]
            refine x_augW Z₁₃ (by repeat' with_reducible constructor) (w_BinOp2 (Pe.use (e_item (by tm_at "pe") (by tm_at "pe") oh' (by exact Int.natCast_nonneg _) (by lia) f4) fun v4 hv4 => w_ifExp (w_inTupP Z₁₃ (e_item_bytes (by tm_at "pe") (by tm_at "pe") hfit (by lia) (by rw [hal]; exact f2)) (ps_cons (by tm_at "pe") (ps_cons (by tm_at "pe") ps_nil)) (by rfl) (by exact Nat.succ_ne_zero _) fun h₁₅ Z₁₅ => ?_)))
            clear Z₁₃
            rw [he]
            have ob'' := Own.keeps Z₁₅.keep o2
            cases hyi : isEnd yi with
            | true =>
              first | refine ite_t ?_ | refine exs_t ?_ | refine ev_t ?_ | rw [if_pos rfl]
              refine Pe.use (e_item (by tm_at "pe") (by tm_at "pe") ob'' (by exact Int.natCast_nonneg _) (by lia) f5) fun v8 hv8 => b_add hv4 hv8 fun v9 hv9 => ⟨_, _, _, _, hv9, Z₁₅, aug_add, (by repeat' with_reducible constructor), fun h₁₆ Z₁₆ => x_done (x_done (x_nil (kR <| lp_next ?_)))⟩
              rw [ld, hyi, if_pos rfl]; exact Z₁₆.wk (by repeat' first | with_reducible constructor | refine' Wk.keep ?_)
            | false =>
              first | refine ite_f ?_ | refine exs_f ?_ | refine ev_f ?_ | rw [if_neg Bool.false_ne_true]
              refine Pe.use (by tm_at "pe") fun v8 hv8 => b_add hv4 hv8 fun v9 hv9 => ⟨_, _, _, _, hv9, Z₁₅, aug_add, (by repeat' with_reducible constructor), fun h₁₆ Z₁₆ => x_done (x_done (x_nil (kR <| lp_next ?_)))⟩
              rw [ld, hyi, if_neg Bool.false_ne_true]; exact Z₁₆.wk (by repeat' first | with_reducible constructor | refine' Wk.keep ?_)
          · simp only [decide_eq_false_iff_not] at e
            have ld : lkDots hdi bi xi yi = 0 := by simp [lkDots, hxi, e]
            rw [ld, Int.add_zero] at kR
            exact x_done (x_done (x_nil (kR <| lp_next (Z₁₃.wk (by repeat' first | with_reducible constructor | refine' Wk.keep ?_)))))
      · rintro h₉ Z
        exact next_tup_end hR.h Z (Z.get (by repeat' with_reducible constructor)) (by simp) fun h₁₀ Z₁₀ => ⟨rfl, kS <| sx_next Z₁₀.drop⟩
    · rintro h₇ Z
      refine x_ret' (w_tupP Z (ps_cons (by tm_at "pe") (ps_cons (e_cmp (by tm_at "pe") (by tm_at "pe") (by repeat' (show (_ : Prop); first | with_reducible refine' CmI.cm ?_ | with_reducible constructor | rfl))) ps_nil)) fun r h₈ Z₈ => ?_)
      ((repeat with_reducible refine sq_ret ?_); with_reducible refine fq_ret ?_)
      exact k r h₈ Z₈.new

noncomputable def crlfG : Bool → List Nat → List Nat
  | _, [] => []
  | b, c :: t => if c = 13 then 13 :: 10 :: crlfG true t else if c = 10 then (if b = true then crlfG false t else 13 :: 10 :: crlfG false t) else c :: crlfG false t
noncomputable def crlf (x : List Nat) : List Nat := crlfG false x
theorem crlfG_c {b : Bool} {c : Nat} {t : List Nat} : crlfG b (c :: t) = if c = 13 then 13 :: 10 :: crlfG true t else if c = 10 then (if b = true then crlfG false t else 13 :: 10 :: crlfG false t) else c :: crlfG false t := rfl
noncomputable def dotq : Bool → List Nat → List Nat
  | _, [] => []
  | b, c :: t => if b = true ∧ c = 46 then 46 :: 46 :: dotq false t else c :: dotq (c == 10) t
theorem dotq_c {b : Bool} {c : Nat} {t : List Nat} : dotq b (c :: t) = if b = true ∧ c = 46 then 46 :: 46 :: dotq false t else c :: dotq (c == 10) t := rfl
theorem crlf_other {c : Nat} {t : List Nat} (h : ¬ (c = 13 ∨ c = 10)) : crlf (c :: t) = c :: crlf t := by
  show crlfG false (c :: t) = c :: crlfG false t
  rw [crlfG_c, if_neg fun e => h (.inl e), if_neg fun e => h (.inr e)]
theorem crlf_two {t : List Nat} : crlf (13 :: 10 :: t) = 13 :: 10 :: crlf t := rfl
theorem crlf_one {c : Nat} {t : List Nat} (h : c = 13 ∨ c = 10) (h2 : ¬ (c = 13 ∧ t.head? = some 10)) : crlf (c :: t) = 13 :: 10 :: crlf t := by
  show crlfG false (c :: t) = 13 :: 10 :: crlfG false t
  rw [crlfG_c]
  by_cases e : c = 13
  · rw [if_pos e]
    cases t with
    | nil => rfl
    | cons d t =>
      have n : d ≠ 10 := fun z => h2 ⟨e, by rw [z]; rfl⟩
      rw [crlfG_c, crlfG_c, if_neg n, if_neg n]
  · rw [if_neg e, if_pos (h.resolve_left e), if_neg Bool.false_ne_true]
theorem drop_cons (text : Array Nat) {s : Nat} (h : s < text.size) : text.toList.drop s = text.getD s 0 :: text.toList.drop (s + 1) := by
  rw [List.drop_eq_getElem_cons (by simpa using h)]
  simp [Array.getD, h]
theorem extract_cons (text : Array Nat) {s x : Nat} (h : s < x) (hx : x ≤ text.size) : (text.extract s x).toList = text.getD s 0 :: (text.extract (s + 1) x).toList := by
  have hs : s < text.size := by exact Nat.lt_of_lt_of_le (by assumption) (by assumption)
  simp only [Array.toList_extract, List.extract_eq_take_drop]
  have e := drop_cons text hs
  rw [e, show x - s = (x - (s + 1)) + 1 by lia, List.take_succ_cons]
theorem find2_crlf (text : Array Nat) : ∀ k s, s + k = text.size → match find2 text k s with
    | none => crlf (text.toList.drop s) = text.toList.drop s
    | some (x, y) => crlf (text.toList.drop s) = (text.extract s x).toList ++ 13 :: 10 :: crlf (text.toList.drop y)
  | 0, s, hk => by
    show crlf (text.toList.drop s) = text.toList.drop s
    rw [List.drop_of_length_le (by simp; lia)]; rfl
  | k + 1, s, hk => by
    have hs : s < text.size := by lia
    have e := drop_cons text hs
    unfold find2
    by_cases h : text.getD s 0 = 13 ∨ text.getD s 0 = 10
    · rw [if_pos h]
      dsimp only
      have e0 : (text.extract s s).toList = [] := by simp
      rw [e0, List.nil_append]
      by_cases h2 : text.getD s 0 = 13 ∧ text.getD (s + 1) 0 = 10
      · rw [if_pos h2]
        have hs1 : s + 1 < text.size := by
          rcases Nat.lt_or_ge (s + 1) text.size with z | z
          · exact z
          · have q2 := h2.2
            rw [Array.getD_eq_getD_getElem?, Array.getElem?_eq_none z] at q2; cases q2
        rw [e, drop_cons text hs1, h2.1, h2.2, crlf_two]
      · rw [if_neg h2, e]
        refine crlf_one h fun z => h2 ⟨z.1, ?_⟩
        have z2 := z.2
        rw [List.head?_drop] at z2
        rw [Array.getD_eq_getD_getElem?]
        have : text[s + 1]? = some 10 := by simpa using z2
        rw [this]; rfl
    · rw [if_neg h]
      have ih := find2_crlf text k (s + 1) (by lia)
      cases q : find2 text k (s + 1) with
      | none =>
        rw [q] at ih
        dsimp only at ih ⊢
        rw [e, crlf_other h, ih]
      | some r =>
        obtain ⟨x, y⟩ := r
        rw [q] at ih
        have hx := find2_gt text k (s + 1) x y (by lia) q
        dsimp only at ih ⊢
        rw [e, crlf_other h, ih, extract_cons text (by lia : s < x) (by lia)]; rfl
theorem catStr_append (a b : List Str) : catStr (a ++ b) = catStr a ++ catStr b := by simp [catStr]
theorem catStr_cons (a : Str) (b : List Str) : catStr (a :: b) = a.cps.toList ++ catStr b := by simp [catStr]
theorem subs2 (text : Array Nat) (rep : Str) (hrep : rep.cps.toList = [13, 10]) : ∀ f s, s ≤ text.size → text.size < s + f → catStr (subs (fun st => find2 text (text.size - st) st) text rep f s) = crlf (text.toList.drop s)
  | 0, s, h1, h2 => by lia
  | f + 1, s, h1, h2 => by
    rw [subs_succ]
    have c := find2_crlf text (text.size - s) s (by lia)
    cases q : find2 text (text.size - s) s with
    | none =>
      rw [q] at c
      dsimp only at c ⊢
      rw [c]
      split
      · simp [catStr, List.extract_eq_take_drop]
        rw [List.take_of_length_le (by simp)]
      · rw [List.drop_of_length_le (by simp; lia)]; rfl
    | some r =>
      obtain ⟨x, y⟩ := r
      rw [q] at c
      obtain ⟨g1, g2, g3⟩ := find2_gt text (text.size - s) s x y (by lia) q
      dsimp only at c ⊢
      rw [c, catStr_append, catStr_cons, hrep, subs2 text rep hrep f y g3 (by lia)]
      split
      · simp [catStr]
      · obtain rfl : s = x := by lia
        simp [catStr]
theorem find1_dotq (text : Array Nat) : ∀ k s, s + k = text.size → match find1 text k s with
    | none => dotq (decide (s = 0 ∨ text.getD (s - 1) 0 = 10)) (text.toList.drop s) = text.toList.drop s
    | some (x, y) => dotq (decide (s = 0 ∨ text.getD (s - 1) 0 = 10)) (text.toList.drop s) = (text.extract s x).toList ++ 46 :: 46 :: dotq (decide (y = 0 ∨ text.getD (y - 1) 0 = 10)) (text.toList.drop y)
  | 0, s, hk => by
    show dotq _ (text.toList.drop s) = text.toList.drop s
    rw [List.drop_of_length_le (by simp; lia)]; rfl
  | k + 1, s, hk => by
    have hs : s < text.size := by lia
    have e := drop_cons text hs
    unfold find1
    by_cases h : (s = 0 ∨ text.getD (s - 1) 0 = 10) ∧ text.getD s 0 = 46
    · rw [if_pos h]
      dsimp only
      have e0 : (text.extract s s).toList = [] := by simp
      rw [e0, List.nil_append, e, dotq_c, if_pos ⟨decide_eq_true h.1, h.2⟩]
      have : decide (s + 1 = 0 ∨ text.getD (s + 1 - 1) 0 = 10) = false := by
        rw [show s + 1 - 1 = s by lia, h.2]; rfl
      rw [this]
    · rw [if_neg h]
      have ih := find1_dotq text k (s + 1) (by lia)
      have st : dotq (decide (s = 0 ∨ text.getD (s - 1) 0 = 10)) (text.toList.drop s) = text.getD s 0 :: dotq (decide (s + 1 = 0 ∨ text.getD (s + 1 - 1) 0 = 10)) (text.toList.drop (s + 1)) := by
        rw [e, dotq_c, if_neg (fun z => h ⟨of_decide_eq_true z.1, z.2⟩)]
        congr 2
        rw [show s + 1 - 1 = s by lia]
        simp
        rfl
      cases q : find1 text k (s + 1) with
      | none =>
        rw [q] at ih
        dsimp only at ih ⊢
        rw [st, ih, e]
      | some r =>
        obtain ⟨x, y⟩ := r
        rw [q] at ih
        have hx := find1_gt text k (s + 1) x y q
        dsimp only at ih ⊢
        rw [st, ih, extract_cons text (by lia : s < x) (by lia)]; rfl
theorem subs1 (text : Array Nat) (rep : Str) (hrep : rep.cps.toList = [46, 46]) : ∀ f s, s ≤ text.size → text.size < s + f → catStr (subs (fun st => find1 text (text.size - st) st) text rep f s) = dotq (decide (s = 0 ∨ text.getD (s - 1) 0 = 10)) (text.toList.drop s)
  | 0, s, h1, h2 => by lia
  | f + 1, s, h1, h2 => by
    rw [subs_succ]
    have c := find1_dotq text (text.size - s) s (by lia)
    cases q : find1 text (text.size - s) s with
    | none =>
      rw [q] at c
      dsimp only at c ⊢
      rw [c]
      split
      · simp [catStr, List.extract_eq_take_drop]
        rw [List.take_of_length_le (by simp)]
      · rw [List.drop_of_length_le (by simp; lia)]; rfl
    | some r =>
      obtain ⟨x, y⟩ := r
      rw [q] at c
      obtain ⟨g1, g2, g3⟩ := find1_gt text (text.size - s) s x y q
      dsimp only at c ⊢
      rw [c, catStr_append, catStr_cons, hrep, subs1 text rep hrep f y (by lia) (by lia)]
      split
      · simp [catStr]
      · obtain rfl : s = x := by lia
        simp [catStr]
noncomputable def quoted (x : List Nat) : List Nat := dotq true (crlf x)
theorem crlf_len : ∀ x : List Nat, (crlf x).length ≤ 2 * x.length
  | [] => Nat.zero_le _
  | [c] => by
    by_cases h : c = 13 ∨ c = 10
    · rw [crlf_one h (fun z => by simp at z)]; exact Nat.le_refl 2
    · rw [crlf_other h]; exact Nat.le_succ 1
  | c :: d :: t => by
    by_cases h2 : c = 13 ∧ d = 10
    · obtain ⟨rfl, rfl⟩ := h2
      rw [crlf_two]
      have := crlf_len t
      simp only [List.length_cons]; lia
    · have := crlf_len (d :: t)
      by_cases h : c = 13 ∨ c = 10
      · rw [crlf_one h (fun z => h2 ⟨z.1, by simpa using z.2⟩)]
        simp only [List.length_cons] at this ⊢; lia
      · rw [crlf_other h]
        simp only [List.length_cons] at this ⊢; lia
theorem dotq_len : ∀ (b : Bool) (x : List Nat), (dotq b x).length ≤ 2 * x.length
  | _, [] => Nat.zero_le _
  | b, c :: t => by
    rw [dotq_c]
    have h1 := dotq_len false t
    have h2 := dotq_len (c == 10) t
    split <;> simp only [List.length_cons] <;> lia

set_option maxHeartbeats 400000
noncomputable def strTok : Option (Option Value) → Tok
  | some (some (.str _ t)) => t
  | _ => 0
theorem mt_pat {C : Cx} {A : Around} {h : Heap} {p : Addr} {code : Array Nat} (x : PatAt h p code) : Mt C A h (.ref p) (Str.ofString "sub") (.builtin "re.Pattern.sub") [.ref p] := by
  obtain ⟨x1, x2, q, ws, a, b, c⟩ := x.out
  exact ⟨fun pl R k => gm_slot (ov := .ref p) plainAttrs_pat slot_sub type_sub (fun t => ⟨_, a, rfl⟩) (fun a' e => by cases e; exact ⟨_, a, rfl⟩) pl R k⟩
section
variable {C : Cx} {A : Around} {h h₀ h' : Heap} {env : Env} {l l' : List (Str × Option PV)} {cs cs' : List (Addr × AO)}
theorem w_sub2 {p : Addr} {s rep : Str} {t1 t2 : Tok} {Q : Value → Heap → Prop} (Z : St env h₀ l cs h) (hsz : s.cps.size ≤ 1000000) (hP : PatAt h₀ p code2) (hr : rep.cps.toList = [13, 10]) (hrep : rep.cps.contains 92 = false)
    (k : ∀ v h', St env h₀ l cs h' → pv v = .str ⟨(crlf s.cps.toList).toArray⟩ → Q v h') : Wp C A (call (.builtin "re.Pattern.sub") [.ref p, .str rep t2, .str s t1]) Q h := by
  have e2 := subs2 s.cps rep hr (s.cps.size + 1) 0 (Nat.zero_le _) (by lia)
  rw [List.drop_zero] at e2
  have l2 := crlf_len s.cps.toList
  have lz : s.cps.toList.length = s.cps.size := Array.length_toList
  refine w_sub (find := fun st => find2 s.cps (s.cps.size - st) st) (B := 5 * s.cps.size + 50) Z ?_ (by lia) (fun st hst => forSearch2 s.cps hst) hsz (by rw [e2]; simp only [sizeLine]; lia) hP hrep fun v h2 Z2 hv => ?_
  · intro st x y q
    rcases Nat.lt_or_ge s.cps.size st with z | z
    · rw [show s.cps.size - st = 0 by lia] at q; cases q
    · exact find2_gt s.cps _ st x y (by lia) q
  · rw [e2] at hv; exact k v h2 Z2 hv
theorem w_sub1 {p : Addr} {s rep : Str} {t1 t2 : Tok} {Q : Value → Heap → Prop} (Z : St env h₀ l cs h) (hsz : s.cps.size ≤ 1000000) (hP : PatAt h₀ p code1) (hr : rep.cps.toList = [46, 46]) (hrep : rep.cps.contains 92 = false)
    (k : ∀ v h', St env h₀ l cs h' → pv v = .str ⟨(dotq true s.cps.toList).toArray⟩ → Q v h') : Wp C A (call (.builtin "re.Pattern.sub") [.ref p, .str rep t2, .str s t1]) Q h := by
  have e2 := subs1 s.cps rep hr (s.cps.size + 1) 0 (Nat.zero_le _) (by lia)
  simp only [List.drop_zero, true_or, decide_true] at e2
  have l2 := dotq_len true s.cps.toList
  have lz : s.cps.toList.length = s.cps.size := Array.length_toList
  refine w_sub (find := fun st => find1 s.cps (s.cps.size - st) st) (B := 5 * s.cps.size + 10) Z ?_ (by lia) (fun st hst => forSearch1 s.cps hst) hsz (by rw [e2]; simp only [sizeLine]; lia) hP hrep fun v h2 Z2 hv => ?_
  · intro st x y q
    rcases Nat.lt_or_ge s.cps.size st with z | z
    · rw [show s.cps.size - st = 0 by lia] at q; cases q
    · have := find1_gt s.cps _ st x y q
      lia
  · rw [e2] at hv; exact k v h2 Z2 hv
end
theorem quotedata_spec {C : Cx} {A : Around} {h : Heap} {P : Params} {n : Nat} {us : List Value} {s : Str} {Q : Value → Heap → Prop} (hA : Rm (n + 1) A) (G : Gd (hd.heap_39 P) h) (hu : us.map pv = [.str s]) (hz : s.cps.size ≤ 100000)
    (k : ∀ v h', Keeps h h' → pv v = .str ⟨(quoted s.cps.toList).toArray⟩ → Q v h') : Cp C A (.call (.ref 204) ⟨us, []⟩) (fun fl h' => ∃ v, fl = .ret v ∧ Q v h') h := by
  have FF := Fn.mk (K := hd.heap_39 P) (f := 204) (xs := ["data"]) (ys := []) (by kernel_rfl) (fn_body (by k_is) (by exact rfl)) (by kernel_rfl) (by kernel_rfl) (fun _ => LocK.of (by kernel_rfl) (by kernel_rfl) (by decide +kernel)) (by kernel_rfl) (by kernel_rfl) (by kernel_rfl)
  obtain ⟨u, rfl, hu1⟩ := x_one hu
  have hp1 : PatAt h 192 code1 := ⟨_, _, _, _, G.k _ _ (by k_is), G.k _ _ (by k_is), by kernel_rfl⟩
  have hp2 : PatAt h 197 code2 := ⟨_, _, _, _, G.k _ _ (by k_is), G.k _ _ (by k_is), by kernel_rfl⟩
  refine fn_enter (l := [("data", some (.str s))]) (vs := [u]) FF hA G hu rfl (Bd.of_eq (by kernel_rfl)) rfl fun env h₁ E Z G' hR => ?_
  refine x_ret' ?_
  refine w_mcall ?_
  refine (gl_topE (v := .ref 192) G' E (by kernel_rfl) (by kernel_rfl)) _ _ ?_
  refine ⟨_, _, mt_pat (hp1.keeps Z.keep), ?_⟩
  refine w_callWith ?_
  refine w_args_cons (Pe.use (by tm_at "pe") fun v1 hv1 => w_args_cons ?_)
  refine w_mcall ?_
  refine (gl_topE (v := .ref 197) G' E (by kernel_rfl) (by kernel_rfl)) _ _ ?_
  refine ⟨_, _, mt_pat (hp2.keeps Z.keep), ?_⟩
  refine w_callWith ?_
  refine w_args_cons (Pe.use (e_gl (gl_topE (v := .str (Str.ofString "\r\n") (strTok (nsIn (hd.heap_39 P) mainGlobals (Str.ofString "CRLF")))) G' E (by kernel_rfl) (by kernel_rfl))) fun v2 hv2 => ?_)
  refine w_args_cons (Pe.use (by tm_at "pe") fun v3 hv3 => ?_)
  obtain ⟨t1, rfl⟩ := pv_str hv1
  obtain ⟨t2, rfl⟩ := pv_str hv2
  obtain ⟨t3, rfl⟩ := pv_str hv3
  have l2 := crlf_len s.cps.toList
  have lz : s.cps.toList.length = s.cps.size := Array.length_toList
  refine w_args_nil ?_
  refine w_sub2 Z (by exact Nat.le_trans (by assumption) (by decide)) hp2 (by decide +kernel) (by decide +kernel) fun v4 h2 Z2 hv4 => ?_
  obtain ⟨t4, rfl⟩ := pv_str hv4
  refine w_args_nil ?_
  refine w_sub1 Z2 (by simp; lia) hp1 (by decide +kernel) (by decide +kernel) fun v5 h3 Z3 hv5 => ?_
  ((repeat with_reducible refine sq_ret ?_); with_reducible refine fq_ret ?_)
  exact k _ _ Z3.keep (by rw [hv5]; simp [quoted])

end Mine
namespace Mine
open PySem PySem.W
theorem bitOr_nn {x y : Int} (hx : 0 ≤ x) (hy : 0 ≤ y) : Builtin.bitOr x y = ((x.toNat ||| y.toNat : Nat) : Int) := by
  unfold Builtin.bitOr Builtin.bitAnd
  have e1 : decide (0 ≤ Builtin.bitNot x) = false := by unfold Builtin.bitNot; exact decide_eq_false (by lia)
  have e2 : decide (0 ≤ Builtin.bitNot y) = false := by unfold Builtin.bitNot; exact decide_eq_false (by lia)
  rw [e1, e2]
  have n : ∀ z : Int, Builtin.bitNot (Builtin.bitNot z) = z := fun z => by unfold Builtin.bitNot; lia
  show Builtin.bitNot (Builtin.bitNot _) = _
  rw [n, n, n]
theorem bor {a b : Int} (k : Nat) (ha : 0 ≤ a) (hb : 0 ≤ b) (hk : b < 2 ^ k) : Builtin.bitOr (a * 2 ^ k) b = a * 2 ^ k + b := by
  have hp : (0 : Int) ≤ a * 2 ^ k := Int.mul_nonneg ha (Int.le_of_lt (Int.pow_pos (by decide)))
  rw [bitOr_nn hp hb]
  obtain ⟨m, rfl⟩ := Int.eq_ofNat_of_zero_le ha
  obtain ⟨n, rfl⟩ := Int.eq_ofNat_of_zero_le hb
  have hn : n < 2 ^ k := by exact_mod_cast hk
  have e : ((m : Int) * 2 ^ k).toNat = m * 2 ^ k := by
    have : (m : Int) * 2 ^ k = ((m * 2 ^ k : Nat) : Int) := by push_cast; rfl
    rw [this]; rfl
  rw [e, Int.toNat_natCast, ← Nat.shiftLeft_eq, ← Nat.shiftLeft_add_eq_or_of_lt hn, Nat.shiftLeft_eq]
  push_cast; rfl
noncomputable def alph (v : Int) : Int := if v < 26 then 65 + v else if v < 52 then 71 + v else if v < 62 then v - 4 else if v = 62 then 43 else 47
noncomputable def b2aStep (s : List Int × Int × Int) (b : Int) : List Int × Int × Int :=
  if s.2.2 = 0 then (s.1 ++ [b / 4], b % 4, 2)
  else if s.2.2 = 2 then (s.1 ++ [s.2.1 * 16 + b / 16], b % 16, 4)
  else (s.1 ++ [s.2.1 * 4 + b / 64, b % 64], 0, 0)
noncomputable def b2aRun (ks : List Int) : List Int × Int × Int := ks.foldl b2aStep ([], 0, 0)
noncomputable def b2aEnd (s : List Int × Int × Int) : List Int :=
  if s.2.2 = 2 then (s.1 ++ [s.2.1 * 16]).map alph ++ [61, 61] else if s.2.2 = 4 then (s.1 ++ [s.2.1 * 4]).map alph ++ [61] else s.1.map alph
theorem b2aRun_take {ks : List Int} {i : Nat} {b : Int} (h : ks[i]? = some b) : b2aRun (ks.take (i + 1)) = b2aStep (b2aRun (ks.take i)) b := by
  unfold b2aRun
  rw [List.take_succ, h]
  simp
structure B2Ok (s : List Int × Int × Int) : Prop where
  bits : s.2.2 = 0 ∧ s.2.1 = 0 ∨ s.2.2 = 2 ∧ 0 ≤ s.2.1 ∧ s.2.1 < 4 ∨ s.2.2 = 4 ∧ 0 ≤ s.2.1 ∧ s.2.1 < 16
  vals : ∀ v ∈ s.1, 0 ≤ v ∧ v < 64
theorem B2Ok.nb {s : List Int × Int × Int} (h : B2Ok s) : ∃ nb : Nat, s.2.2 = nb ∧ (nb = 0 ∨ nb = 2 ∨ nb = 4) ∧ 0 ≤ s.2.1 := by
  rcases h.bits with ⟨a, b⟩ | ⟨a, b, _⟩ | ⟨a, b, _⟩
  · exact ⟨0, a, .inl rfl, Int.le_of_eq b.symm⟩
  · exact ⟨2, a, .inr (.inl rfl), b⟩
  · exact ⟨4, a, .inr (.inr rfl), b⟩
theorem b2aStep_ok {s : List Int × Int × Int} {b : Int} (h : B2Ok s) (h0 : 0 ≤ b) (h1 : b < 256) : B2Ok (b2aStep s b) := by
  obtain ⟨vals, p, bits⟩ := s
  have hb := h.bits
  have hv := h.vals
  simp only at hb hv
  unfold b2aStep
  simp only
  split
  · refine ⟨.inr (.inl ⟨rfl, by dsimp only; lia, by dsimp only; lia⟩), fun v m => ?_⟩
    simp only [List.mem_append, List.mem_singleton] at m
    rcases m with m | m
    · exact hv v m
    · lia
  · split
    · refine ⟨.inr (.inr ⟨rfl, by dsimp only; lia, by dsimp only; lia⟩), fun v m => ?_⟩
      simp only [List.mem_append, List.mem_singleton] at m
      rcases m with m | m
      · exact hv v m
      · lia
    · refine ⟨.inl ⟨rfl, rfl⟩, fun v m => ?_⟩
      simp only [List.mem_append, List.mem_cons, List.not_mem_nil, or_false] at m
      rcases m with m | m | m
      · exact hv v m
      · lia
      · lia
theorem b2aRun_ok : ∀ {ks : List Int}, (∀ k ∈ ks, 0 ≤ k ∧ k < 256) → ∀ i, B2Ok (b2aRun (ks.take i)) := by
  intro ks hk i
  induction i with
  | zero => exact ⟨.inl ⟨rfl, rfl⟩, fun v m => by simp [b2aRun] at m⟩
  | succ i ih =>
    cases q : ks[i]? with
    | none =>
      have : ks.length ≤ i := List.getElem?_eq_none_iff.mp q
      rw [List.take_of_length_le this] at ih
      rw [List.take_of_length_le (by lia)]; exact ih
    | some b =>
      rw [b2aRun_take q]
      have := hk b (List.mem_of_getElem? q)
      exact b2aStep_ok ih this.1 this.2
theorem b2aStep_len (s : List Int × Int × Int) (b : Int) : (b2aStep s b).1.length ≤ s.1.length + 2 := by
  unfold b2aStep
  split
  · simp
  · split
    · simp
    · simp
theorem b2aRun_len (ks : List Int) : ∀ i, (b2aRun (ks.take i)).1.length ≤ 2 * i := by
  intro i
  induction i with
  | zero => simp [b2aRun]
  | succ i ih =>
    cases q : ks[i]? with
    | none =>
      have : ks.length ≤ i := List.getElem?_eq_none_iff.mp q
      rw [List.take_of_length_le this] at ih
      rw [List.take_of_length_le (by lia)]; lia
    | some b =>
      rw [b2aRun_take q]
      have := b2aStep_len (b2aRun (ks.take i)) b
      lia
end Mine

namespace Mine
open PySem PySem.W PyProof.Rows

set_option maxHeartbeats 1000000
theorem buffer_spec {C : Cx} {A : Around} {h : Heap} {P : Params} {n : Nat} {us : List Value} {b : Array UInt8} {Q : Value → Heap → Prop} (hA : Rm (n + 1) A) (G : Gd (hd.heap_39 P) h) (hu : us.map pv = [.bytes b])
    (k : ∀ v h', Keeps h h' → pv v = .bytes b → Q v h') : Cp C A (.call (.ref 73) ⟨us, []⟩) (fun fl h' => ∃ v, fl = .ret v ∧ Q v h') h := by
  have F := Fn.mk (K := hd.heap_39 P) (f := 73) (xs := ["data"]) (ys := ["t"]) (by kernel_rfl) (fn_body (by k_is) (by exact rfl)) (by kernel_rfl) (by kernel_rfl) (fun _ => LocK.of (by kernel_rfl) (by kernel_rfl) (by decide +kernel)) (by kernel_rfl) (by kernel_rfl) (by kernel_rfl)
  obtain ⟨u, rfl, hu1⟩ := x_one hu
  refine fn_enter (l := [("data", some (.bytes b)), ("t", none)]) (vs := [u]) F hA G hu rfl (Bd.of_eq (by kernel_rfl)) rfl fun env h₁ E Z G' hR => ?_
  refine x_assign Z (e_type (gl_bootE G' E (by kernel_rfl) boot_type (by decide +kernel) (by kernel_rfl)) (by tm_at "pe") (fun v t hv => by obtain ⟨_, rfl⟩ := pv_bytes hv; exact typeIs_bytes _ _ _)) (by repeat' with_reducible constructor) fun h₂ Z₂ => ?_
  have G2 := G.keeps Z₂.keep
  refine x_if (t_cmp (by tm_at "pe") (e_gl (gl_bootE G2 E (by kernel_rfl) boot_bytes (by decide +kernel) (by kernel_rfl))) (c_is_typ rfl (by decide +kernel)) rfl) (fun _ => ?_) (fun e => absurd e (by decide +kernel))
  refine x_ret (by tm_at "pe") fun v hv => ?_
  ((repeat with_reducible refine sq_ret ?_); with_reducible refine fq_ret ?_)
  exact k v _ Z₂.keep hv
theorem truth_spec {C : Cx} {A : Around} {h : Heap} {P : Params} {n : Nat} {us : List Value} {b : Bool} {Q : Value → Heap → Prop} (hA : Rm (n + 1) A) (G : Gd (hd.heap_39 P) h) (hu : us.map pv = [.bool b])
    (k : ∀ v h', Keeps h h' → pv v = .bool b → Q v h') : Cp C A (.call (.ref 80) ⟨us, []⟩) (fun fl h' => ∃ v, fl = .ret v ∧ Q v h') h := by
  have F := Fn.mk (K := hd.heap_39 P) (f := 80) (xs := ["x"]) (ys := ["t"]) (by kernel_rfl) (fn_body (by k_is) (by exact rfl)) (by kernel_rfl) (by kernel_rfl) (fun _ => LocK.of (by kernel_rfl) (by kernel_rfl) (by decide +kernel)) (by kernel_rfl) (by kernel_rfl) (by kernel_rfl)
  obtain ⟨u, rfl, hu1⟩ := x_one hu
  refine fn_enter (l := [("x", some (.bool b)), ("t", none)]) (vs := [u]) F hA G hu rfl (Bd.of_eq (by kernel_rfl)) rfl fun env h₁ E Z G' hR => ?_
  refine x_assign Z (e_type (gl_bootE G' E (by kernel_rfl) boot_type (by decide +kernel) (by kernel_rfl)) (by tm_at "pe") (fun v t hv => by obtain rfl := pv_bool hv; rfl)) (by repeat' with_reducible constructor) fun h₂ Z₂ => ?_
  have G2 := G.keeps Z₂.keep
  refine x_if (b := true) (t_all (all_or_f (t_cmp (by tm_at "pe") (by tm_at "pe") (c_is_none rfl) rfl) (all_or_t (t_cmp (by tm_at "pe") (e_gl (gl_bootE G2 E (by kernel_rfl) boot_bool (by decide +kernel) (by kernel_rfl))) (c_is_typ rfl (by decide +kernel)) rfl)))) (fun _ => ?_) (fun e => absurd e (by decide))
  refine x_ret' (w_IfExp (t_bool (by tm_at "pe")) (fun e => e_bool _ fun v hv => ?_) (fun e => e_bool _ fun v hv => ?_))
  · ((repeat with_reducible refine sq_ret ?_); with_reducible refine fq_ret ?_)
    exact k v _ Z₂.keep (by rw [hv, e])
  · ((repeat with_reducible refine sq_ret ?_); with_reducible refine fq_ret ?_)
    exact k v _ Z₂.keep (by rw [hv, e])


set_option maxHeartbeats 1000000
noncomputable def b64arr : Array UInt8 := #[65, 66, 67, 68, 69, 70, 71, 72, 73, 74, 75, 76, 77, 78, 79, 80, 81, 82, 83, 84, 85, 86, 87, 88, 89, 90, 97, 98, 99, 100, 101, 102, 103, 104, 105, 106, 107, 108, 109, 110, 111, 112, 113, 114, 115, 116, 117, 118, 119, 120, 121, 122, 48, 49, 50, 51, 52, 53, 54, 55, 56, 57, 43, 47]
theorem b64arr_at : ∀ v : Fin 64, (KBw.bInts b64arr)[v.1]? = some (alph v.1) := by decide +kernel
theorem b64arr_get {v : Int} (h0 : 0 ≤ v) (h1 : v < 64) : (KBw.bInts b64arr)[v.toNat]? = some (alph v) := by
  have := b64arr_at ⟨v.toNat, by lia⟩
  simp only at this
  rw [show ((v.toNat : Nat) : Int) = v by lia] at this
  exact this
theorem b64_glob (P : Params) : ∃ t, nsIn (hd.heap_39 P) mainGlobals (Str.ofString "_B64") = some (some (.bytes b64arr t)) := ⟨_, by k_is⟩
theorem mapint_snoc (w : List Int) (v : Int) : (w.map fun v => PV.int (alph v)) ++ [PV.int (alph v)] = (w ++ [v]).map fun v => PV.int (alph v) := by simp
noncomputable def drain (N : Int) (n : Nat) : List Int := if 12 ≤ n then [N / 2 ^ (n - 6) % 64, N / 2 ^ (n - 12) % 64] else if 6 ≤ n then [N / 2 ^ (n - 6) % 64] else []
theorem drain_bd (N : Int) (n : Nat) : 0 ≤ N / 2 ^ (n - 6) % 64 ∧ N / 2 ^ (n - 6) % 64 < 64 := ⟨Int.emod_nonneg _ (by decide), Int.emod_lt_of_pos _ (by decide)⟩
theorem drain_step (N : Int) {n : Nat} (h : 6 ≤ n) (h2 : n < 18) : drain N n = N / 2 ^ (n - 6) % 64 :: drain N (n - 6) := by
  unfold drain
  rw [if_neg (show ¬ 12 ≤ n - 6 by lia), if_pos h]
  by_cases e : 12 ≤ n
  · rw [if_pos e, if_pos (Nat.le_sub_of_add_le e), show n - 6 - 6 = n - 12 from Nat.sub_sub n 6 6]
  · rw [if_neg e, if_neg fun z => e (Nat.add_le_of_le_sub h z)]
theorem drain_stop (N : Int) {n : Nat} (h : n < 6) : drain N n = [] := by
  unfold drain
  rw [if_neg (by lia), if_neg (by lia)]
theorem drain_len (N : Int) (n : Nat) : (drain N n).length ≤ 2 := by
  unfold drain
  split
  · simp
  · split <;> simp
theorem b2n {L C k r s : Nat} (h64 : r * 64 = 256 * k) (hd : r * 64 ∣ 65536) (hs : r * s = 256) (hr : 0 < r) (h1 : C < 256) : L % k * s + C / r = (L * 256 + C) % 65536 / r % 64 ∧ C % r = (L * 256 + C) % 65536 % r := by
  constructor
  · rw [← Nat.mod_mul_right_div_self, Nat.mod_mod_of_dvd _ hd, h64, Nat.mod_mul, Nat.mul_comm L 256, Nat.mul_add_mod, Nat.mod_eq_of_lt h1, Nat.mul_add_div (by decide), Nat.div_eq_of_lt h1, Nat.add_zero, ← hs, Nat.mul_assoc, Nat.add_mul_div_left _ _ hr, Nat.add_comm, Nat.mul_comm s]
  · rw [Nat.mod_mod_of_dvd _ (Nat.dvd_trans (Nat.dvd_mul_right r 64) hd), ← hs, Nat.mul_comm L, Nat.mul_assoc, Nat.mul_add_mod]
theorem b2x {w : List Int} {x y a b n : Int} {s : List Int × Int × Int} (e : s = (w ++ [a], b, n)) (h1 : a = x) (h2 : b = y) : s = (w ++ [x], y, n) := by rw [e, h1, h2]
theorem b2y {w : List Int} {x y a b z : Int} {s : List Int × Int × Int} (e : s = (w ++ [a, b], 0, 0)) (h1 : a = x) (h2 : b = y) (h3 : 0 = z) : s = (w ++ [x, y], z, 0) := by rw [e, h1, h2, ← h3]
theorem b2aStep_drain {w : List Int} {p c lc : Int} {nb : Nat} (hb : nb = 0 ∨ nb = 2 ∨ nb = 4) (hp : 0 ≤ p) (h0 : 0 ≤ c) (h1 : c < 256) (hl : 0 ≤ lc) (hm : lc % 2 ^ ((nb : Int)).toNat = p) :
    b2aStep (w, p, (nb : Int)) c = (w ++ drain ((lc * 256 + c) % 65536) (nb + 8), (lc * 256 + c) % 65536 % 2 ^ ((((nb + 8) % 6 : Nat) : Int)).toNat, (((nb + 8) % 6 : Nat) : Int)) := by
  obtain ⟨L, rfl⟩ := Int.eq_ofNat_of_zero_le hl
  obtain ⟨C, rfl⟩ := Int.eq_ofNat_of_zero_le h0
  have h1 := Int.ofNat_lt.mp h1
  subst hm
  rcases hb with rfl | rfl | rfl
  · exact b2x (show b2aStep (w, 0, 0) C = (w ++ [((C / 4 : Nat) : Int)], ((C % 4 : Nat) : Int), 2) from rfl) (congrArg Nat.cast ((Nat.zero_add _).symm.trans (((congrArg (· * 64 + C / 4) (Nat.mod_one L)).symm.trans (b2n (k := 1) (r := 4) (s := 64) rfl (by decide) rfl (by decide) h1).1)))) (congrArg Nat.cast (b2n (k := 1) (r := 4) (s := 64) rfl (by decide) rfl (by decide) h1 (L := L)).2)
  · exact b2x (show b2aStep (w, ((L % 4 : Nat) : Int), 2) C = (w ++ [((L % 4 * 16 + C / 16 : Nat) : Int)], ((C % 16 : Nat) : Int), 4) from rfl) (congrArg Nat.cast (b2n (k := 4) (r := 16) (s := 16) rfl (by decide) rfl (by decide) h1).1) (congrArg Nat.cast (b2n (k := 4) (r := 16) (s := 16) rfl (by decide) rfl (by decide) h1).2)
  · have a := b2n (k := 16) (r := 64) (s := 4) (L := L) rfl (by decide) rfl (by decide) h1
    exact b2y (show b2aStep (w, ((L % 16 : Nat) : Int), 4) C = (w ++ [((L % 16 * 4 + C / 64 : Nat) : Int), ((C % 64 : Nat) : Int)], 0, 0) from rfl) (congrArg Nat.cast a.1) (congrArg Nat.cast (a.2.trans (congrArg (· % 64) (Nat.div_one ((L * 256 + C) % 65536)).symm))) (Int.emod_one _).symm
theorem b2a_spec {C : Cx} {A : Around} {h : Heap} {P : Params} {n : Nat} {u : Value} {b : Array UInt8} {ks : List Int} {Q : Value → Heap → Prop} (hA : Rm (n + 2) A) (G : Gd (hd.heap_39 P) h) (hu : pv u = .bytes b) (hk : KBw.bInts b = ks) (hz : ks.length ≤ 1000000)
    (k : ∀ v h', Keeps h h' → pv v = .bytes (byteArr (b2aEnd (b2aRun ks))) → Q v h') : Cp C A (.call (.ref 103) ⟨[u], [("newline", .bool false)]⟩) (fun fl h' => ∃ v, fl = .ret v ∧ Q v h') h := by
  have F := Fn.mk (K := hd.heap_39 P) (f := 103) (xs := ["data", "newline"]) (ys := ["bin_data", "out", "leftbits", "leftchar", "b"]) (by kernel_rfl) (fn_body (by k_is) (by exact rfl)) (by kernel_rfl) (by kernel_rfl) (fun _ => LocK.of (by kernel_rfl) (by kernel_rfl) (by decide +kernel)) (by kernel_rfl) (by kernel_rfl) (by kernel_rfl)
  have hkr : ∀ k ∈ ks, 0 ≤ k ∧ k < 256 := fun k m => KBw.ints_in (hk ▸ m)
  have hsz : b.size = ks.length := by rw [← hk, KBw.ints_length]
  obtain ⟨tB, gB⟩ := b64_glob P
  refine fn_enter (l := [("data", some (.bytes b)), ("newline", some (.bool false)), ("bin_data", none), ("out", none), ("leftbits", none), ("leftchar", none), ("b", none)]) (vs := [u, .bool false]) (ps := [.bytes b, .bool false]) F hA G (by show [pv u, pv (Value.bool false)] = _; rw [hu]; rfl) rfl (Bd.of_eq (by kernel_rfl)) rfl fun env h₁ E Z G' hR => ?_
  refine x_assign' (w_call (gl_topE (v := .ref 73) G' E (by kernel_rfl) (by kernel_rfl)) (G'.fn (f := 73) (by kernel_rfl)) (ps_cons (by tm_at "pe") ps_nil) fun vs hvs => buffer_spec hR G' hvs fun v h₂ k2 hv => w_store (Z.keeps k2) hv (by repeat' with_reducible constructor) fun h₃ Z₃ => ?_)
  have G3 := G.keeps Z₃.keep
  refine x_assign' (w_call (gl_topE (v := .ref 80) G3 E (by kernel_rfl) (by kernel_rfl)) (G3.fn (f := 80) (by kernel_rfl)) (ps_cons (by tm_at "pe") ps_nil) fun vs hvs => truth_spec hR G3 hvs fun v h₄ k4 hv => w_store (Z₃.keeps k4) hv (by repeat' with_reducible constructor) fun h₅ Z₅ => ?_)
  refine x_assign' (w_List (w_args_nil (w_newList Z₅ (by decide) fun o h₆ Z₆ => w_store Z₆ rfl (by repeat' with_reducible constructor) fun h₇ Z₇ => ?_)))
  refine x_assign Z₇ (by tm_at "pe") (by repeat' with_reducible constructor) fun h₈ Z₈ => ?_
  refine x_assign Z₈ (by tm_at "pe") (by repeat' with_reducible constructor) fun h₉ Z₉ => ?_
  clear Z Z₃ Z₅ Z₆ Z₇ Z₈
  as_aux_lemma =>
  refine x_forX (fun h' => ∃ lc, 0 ≤ lc ∧ lc % 2 ^ (b2aRun ks).2.2.toNat = (b2aRun ks).2.1 ∧ St env h [("data", none), ("newline", some (.bool false)), ("bin_data", none), ("out", some (.ref o)), ("leftbits", some (.int (b2aRun ks).2.2)), ("leftchar", some (.int lc)), ("b", none)] [(o, .list ((b2aRun ks).1.map fun v => PV.int (alph v)))] h') ?_ ?_
  · intro S kS
    refine Pe.use (p := .bytes b) (by tm_at "pe") fun v hv => w_iter_bytes Z₉ hv fun it h₂ Z₂ => ?_
    have Z₃ : St env h [("data", none), ("newline", some (.bool false)), ("bin_data", none), ("out", some (.ref o)), ("leftbits", some (.int 0)), ("leftchar", some (.int 0)), ("b", none)] [(it, bitO b 0), (o, .list [])] h₂ := Z₂.wk (.forget (.keep (.forget (.keep (.keep (.keep (.keep .nil)))))))
    clear Z₂ Z₉
    as_aux_lemma =>
    refine w_forN ks.length (fun i h' => ∃ lc q, 0 ≤ lc ∧ lc < 65536 ∧ lc % 2 ^ (b2aRun (ks.take i)).2.2.toNat = (b2aRun (ks.take i)).2.1 ∧ St env h [("data", none), ("newline", some (.bool false)), ("bin_data", none), ("out", some (.ref o)), ("leftbits", some (.int (b2aRun (ks.take i)).2.2)), ("leftchar", some (.int lc)), ("b", q)] [(it, bitO b i), (o, .list ((b2aRun (ks.take i)).1.map fun v => PV.int (alph v)))] h') ?_ ?_ ⟨0, none, by decide, by decide, by rw [List.take_zero]; rfl, Z₃⟩
    · rintro i h₄ hi ⟨lc, q, h0, h1, hm, Z⟩ R kR
      obtain ⟨c, hc⟩ : ∃ c, ks[i]? = some c := ⟨ks[i], List.getElem?_eq_getElem hi⟩
      obtain ⟨hc0, hc1⟩ := hkr c (List.mem_of_getElem? hc)
      have ok := b2aRun_ok hkr i
      have hlen := b2aRun_len ks i
      rw [b2aRun_take hc] at kR
      obtain ⟨w, p, nb, hst, hbb, hpp⟩ : ∃ w p, ∃ nb : Nat, b2aRun (ks.take i) = (w, p, (nb : Int)) ∧ (nb = 0 ∨ nb = 2 ∨ nb = 4) ∧ 0 ≤ p := by
        obtain ⟨nb, e, a, b⟩ := ok.nb
        exact ⟨_, _, nb, by rw [← e], a, b⟩
      rw [hst] at kR hm Z hlen
      clear ok hst
      as_aux_lemma =>
      dsimp only at hm Z hlen
      have nb4 : nb ≤ 4 := by rcases hbb with rfl | rfl | rfl <;> decide
      rw [b2aStep_drain hbb hpp hc0 hc1 h0 hm] at kR
      refine next_bytes Z (by repeat' with_reducible constructor) (by repeat' with_reducible constructor) (by rw [hk]; exact hc) fun v h₅ hv Z₅ => ⟨v, rfl, w_store Z₅ hv (by repeat' with_reducible constructor) fun h₆ Z₆ => ?_⟩
      have e1 : Builtin.bitAnd (Builtin.bitOr (lc * 2 ^ (8 : Int).toNat) c) 65535 = (lc * 256 + c) % 65536 := by
        rw [bitAnd_m16, show (8 : Int).toNat = 8 from rfl, bor 8 h0 hc0 (by lia)]; rfl
      have e0 : (Builtin.Int.intBits lc : Int) + 8 ≤ 2 ^ 27 := by
        exact Int.le_trans (Int.add_le_add_right (Int.ofNat_le.mpr (intBits_le_64 (k := lc) (by lia) (by lia))) 8) (by decide)
      refine x_assign Z₆ (p := .int ((lc * 256 + c) % 65536)) (by rw [← e1]; exact e_and (e_or (e_lshift (by tm_at "pe") (by tm_at "pe") (by decide) e0) (by tm_at "pe")) (by tm_at "pe")) (by repeat' with_reducible constructor) fun h₇ Z₇ => ?_
      refine x_assign Z₇ (by tm_at "pe") (by repeat' with_reducible constructor) fun h₈ Z₈ => ?_
      clear Z Z₅ Z₆ Z₇ e0 e1 hm
      generalize bitO b (i + 1) = IT at *
      revert IT
      refine blk ?_
      intro IT kR Z₈
      have hN : 0 ≤ (lc * 256 + c) % 65536 ∧ (lc * 256 + c) % 65536 < 65536 := ⟨Int.emod_nonneg _ (by decide), Int.emod_lt_of_pos _ (by decide)⟩
      generalize (lc * 256 + c) % 65536 = N at *
      revert N
      refine blk ?_
      intro N kR Z₈ hN
      refine x_whileX (fun n h' => n % 6 = (nb + 8) % 6 ∧ n ≤ nb + 8 ∧ ∃ w', w' ++ drain N n = w ++ drain N (nb + 8) ∧ w'.length ≤ w.length + 2 ∧ St env h [("data", none), ("newline", some (.bool false)), ("bin_data", none), ("out", some (.ref o)), ("leftbits", some (.int (n : Nat))), ("leftchar", some (.int N)), ("b", some (.int c))] [(it, IT), (o, .list (w'.map fun v => PV.int (alph v)))] h')
        (fun h' => St env h [("data", none), ("newline", some (.bool false)), ("bin_data", none), ("out", some (.ref o)), ("leftbits", some (.int (((nb + 8) % 6 : Nat) : Int))), ("leftchar", some (.int N)), ("b", some (.int c))] [(it, IT), (o, .list ((w ++ drain N (nb + 8)).map fun v => PV.int (alph v)))] h') ?_ (nb + 8) ⟨rfl, Nat.le_refl _, w, rfl, by exact Nat.le_add_right _ _, Z₈⟩ ?_
      · clear Z₈ h₈ kR
        rintro n h₈ ⟨hn, hn2, w', hw', hwl, Z⟩ R Y kR kY
        refine w_test (t_cmp (by tm_at "pe") (by tm_at "pe") (by repeat' (show (_ : Prop); first | with_reducible refine' CmI.cm ?_ | with_reducible constructor | rfl)) rfl) (fun e => ?_) (fun e => ?_)
        · simp only [decide_eq_true_eq] at e
          have hn6 : 6 ≤ n := Int.ofNat_le.mp e
          have GZ := G.keeps Z.keep
          have vb := drain_bd N n
          have vZ : Builtin.bitAnd (N.fdiv (2 ^ ((n : Int) - 6).toNat)) 63 = N / 2 ^ (n - 6) % 64 := by
            rw [bitAnd_m6, show ((n : Int) - 6).toNat = n - 6 from Int.toNat_sub n 6, Int.fdiv_eq_ediv_of_nonneg _ (Int.le_of_lt (Int.pow_pos (by decide)))]
          refine x_append Z (by tm_at "pe") (e_item_bytes (k := N / 2 ^ (n - 6) % 64) (e_gl (gl_topE GZ E gB (by kernel_rfl))) (by rw [← vZ]; exact e_and (e_rshift (by tm_at "pe") (by tm_at "pe") (by lia)) (by tm_at "pe")) (by decide +kernel) vb.1 (b64arr_get vb.1 vb.2)) (by repeat' with_reducible constructor) (by repeat' with_reducible constructor) (by first | exact szm (by lia) | exact sz (by lia) | (simp [sizeLine]; lia)) (fun h₉ Z₉ => ?_) E.inter
          rw [mapint_snoc] at Z₉
          refine x_assign Z₉ (by tm_at "pe") (by repeat' with_reducible constructor) fun h₁₀ Z₁₀ => ?_
          rw [show (n : Int) - 6 = ((n - 6 : Nat) : Int) from (Int.ofNat_sub hn6).symm] at Z₁₀
          have hd : w' ++ [N / 2 ^ (n - 6) % 64] ++ drain N (n - 6) = w ++ drain N (nb + 8) := by rw [← hw', drain_step N hn6 (Nat.lt_of_le_of_lt (Nat.le_trans hn2 (Nat.add_le_add_right nb4 8)) (by decide))]; simp
          refine x_nil (kR <| lp_next ⟨n - 6, Nat.sub_lt (Nat.lt_of_lt_of_le (by decide) hn6) (by decide), (Nat.mod_eq_sub_mod hn6).symm.trans hn, Nat.le_trans (Nat.sub_le ..) hn2, _, hd, ?_, Z₁₀⟩)
          have h1 := congrArg List.length hd
          have h2 := drain_len N (nb + 8)
          simp only [List.length_append] at h1 ⊢
          lia
        · simp only [decide_eq_false_iff_not] at e
          have hl6 : n < 6 := Nat.lt_of_not_le fun z => e (Int.ofNat_le.mpr z)
          rw [drain_stop N hl6, List.append_nil] at hw'
          subst hw'
          rw [show (n : Int) = (((nb + 8) % 6 : Nat) : Int) from congrArg Nat.cast ((Nat.mod_eq_of_lt hl6).symm.trans hn)] at Z
          exact kY Z
      · intro h₉ Z
        exact x_nil (kR <| lp_next ⟨N, _, hN.1, hN.2, rfl, Z⟩)
    · rintro h₄ ⟨lc, q, h0, h1, hm, Z⟩
      rw [List.take_length] at hm Z
      refine next_bytes_end hR.h Z (by lia) fun h₅ Z₅ => ⟨rfl, kS <| sx_next ⟨lc, h0, hm, ?_⟩⟩
      exact Z₅.wk (.keep (.keep (.keep (.keep (.keep (.keep (.forget .nil)))))))
  · rintro h₂ ⟨lc, h0, hm, Z⟩
    have ok := b2aRun_ok hkr ks.length
    have hlen := b2aRun_len ks ks.length
    rw [List.take_length] at ok hlen
    generalize hst : b2aRun ks = st at *
    obtain ⟨w, p, lb⟩ := st
    have hb := ok.bits
    have hw := ok.vals
    simp only at hb hw hm Z hlen
    have al : ∀ v : Int, 0 ≤ v → v < 64 → 0 ≤ alph v ∧ alph v < 256 := fun v a b => by unfold alph; (repeat' split) <;> lia
    have G2 := G.keeps Z.keep
    refine x_ifJ (fun h' => St env h [("data", none), ("newline", some (.bool false)), ("bin_data", none), ("out", some (.ref o)), ("leftbits", some (.int lb)), ("leftchar", some (.int lc)), ("b", none)] [(o, .list ((b2aEnd (w, p, lb)).map PV.int))] h') (t_cmp (by tm_at "pe") (by tm_at "pe") (by repeat' (show (_ : Prop); first | with_reducible refine' CmI.cm ?_ | with_reducible constructor | rfl)) rfl) (fun S kS e => ?_) (fun S kS e => ?_) (fun h₃ Z₃ => ?_)
    · simp only [decide_eq_true_eq] at e
      subst e
      simp at hm hb
      have v2 : Builtin.bitAnd lc 3 * 2 ^ (4 : Int).toNat = p * 16 := by rw [bitAnd_m2, hm]; rfl
      have e0 : (Builtin.Int.intBits (Builtin.bitAnd lc 3) : Int) + 4 ≤ 2 ^ 27 := by
        rw [bitAnd_m2, hm]
        exact Int.le_trans (Int.add_le_add_right (Int.ofNat_le.mpr (intBits_le_64 (k := p) (by lia) (by lia))) 4) (by decide)
      refine x_append Z (by tm_at "pe") (e_item_bytes (k := p * 16) (e_gl (gl_topE G2 E gB (by kernel_rfl))) (by rw [← v2]; exact e_lshift (e_and (by tm_at "pe") (by tm_at "pe")) (by tm_at "pe") (by decide) e0) (by decide +kernel) (by lia) (b64arr_get (by lia) (by lia))) (by repeat' with_reducible constructor) (by repeat' with_reducible constructor) (by first | exact szm (by lia) | exact sz (by lia) | (simp [sizeLine]; lia)) (fun hZa Za => ?_) E.inter
      refine x_append Za (by tm_at "pe") (by tm_at "pe") (by repeat' with_reducible constructor) (by repeat' with_reducible constructor) (by first | exact szm (by assumption) | exact sz (by lia) | (simp [sizeLine]; lia)) (fun hZb Zb => ?_) E.inter
      refine x_append Zb (by tm_at "pe") (by tm_at "pe") (by repeat' with_reducible constructor) (by repeat' with_reducible constructor) (by first | exact szm (by assumption) | exact sz (by lia) | (simp [sizeLine]; lia)) (fun hZc Zc => ?_) E.inter
      refine x_nil (kS <| sx_next ?_)
      have ee : (b2aEnd (w, p, 2)).map PV.int = (w.map fun v => PV.int (alph v)) ++ [PV.int (alph (p * 16))] ++ [PV.int 61] ++ [PV.int 61] := by simp [b2aEnd]
      rw [ee]; exact Zc
    · simp only [decide_eq_false_iff_not] at e
      refine x_if (t_cmp (by tm_at "pe") (by tm_at "pe") (by repeat' (show (_ : Prop); first | with_reducible refine' CmI.cm ?_ | with_reducible constructor | rfl)) rfl) (fun e2 => ?_) (fun e2 => ?_)
      · simp only [decide_eq_true_eq] at e2
        subst e2
        simp at hm hb
        have v2 : Builtin.bitAnd lc 15 * 2 ^ (2 : Int).toNat = p * 4 := by rw [bitAnd_m4, hm]; rfl
        have e0 : (Builtin.Int.intBits (Builtin.bitAnd lc 15) : Int) + 2 ≤ 2 ^ 27 := by
          rw [bitAnd_m4, hm]
          exact Int.le_trans (Int.add_le_add_right (Int.ofNat_le.mpr (intBits_le_64 (k := p) (by lia) (by lia))) 2) (by decide)
        refine x_append Z (by tm_at "pe") (e_item_bytes (k := p * 4) (e_gl (gl_topE G2 E gB (by kernel_rfl))) (by rw [← v2]; exact e_lshift (e_and (by tm_at "pe") (by tm_at "pe")) (by tm_at "pe") (by decide) e0) (by decide +kernel) (by lia) (b64arr_get (by lia) (by lia))) (by repeat' with_reducible constructor) (by repeat' with_reducible constructor) (by first | exact szm (by lia) | exact sz (by lia) | (simp [sizeLine]; lia)) (fun hZa Za => ?_) E.inter
        refine x_append Za (by tm_at "pe") (by tm_at "pe") (by repeat' with_reducible constructor) (by repeat' with_reducible constructor) (by first | exact szm (by assumption) | exact sz (by lia) | (simp [sizeLine]; lia)) (fun hZb Zb => ?_) E.inter
        refine x_done (x_nil (kS <| sx_next ?_))
        have ee : (b2aEnd (w, p, 4)).map PV.int = (w.map fun v => PV.int (alph v)) ++ [PV.int (alph (p * 4))] ++ [PV.int 61] := by simp [b2aEnd]
        rw [ee]; exact Zb
      · simp only [decide_eq_false_iff_not] at e2
        refine x_done (x_nil (kS <| sx_next ?_))
        have ee : (b2aEnd (w, p, lb)).map PV.int = w.map fun v => PV.int (alph v) := by simp [b2aEnd, e, e2]
        rw [ee]; exact Z
    · refine x_if (t_bool (by tm_at "pe")) (fun e => absurd e (by decide)) (fun _ => ?_)
      refine x_done ?_
      have G3 := G.keeps Z₃.keep
      refine x_ret' (w_call_ty (gl_bootE G3 E (by kernel_rfl) boot_bytes (by decide +kernel) (by kernel_rfl)) (w_args_cons (Pe.use (by tm_at "pe") fun v hv => w_args_nil ?_)))
      rw [pv_ref hv]
      refine w_bytes hR.h (Z₃.get .here) ?_ ?_ fun v h₄ hv k4 => ?_
      · intro z hz
        unfold b2aEnd at hz
        simp only at hz
        split at hz
        · simp only [List.mem_append, List.mem_map, List.mem_cons, List.not_mem_nil, or_false] at hz
          rcases hz with ⟨v, hv, rfl⟩ | hz | hz
          · rcases hv with hv | hv
            · exact al v (hw v hv).1 (hw v hv).2
            · exact al v (by lia) (by lia)
          · lia
          · lia
        · split at hz
          · simp only [List.mem_append, List.mem_map, List.mem_cons, List.not_mem_nil, or_false] at hz
            rcases hz with ⟨v, hv, rfl⟩ | hz
            · rcases hv with hv | hv
              · exact al v (hw v hv).1 (hw v hv).2
              · exact al v (by lia) (by lia)
            · lia
          · simp only [List.mem_map] at hz
            obtain ⟨v, hv, rfl⟩ := hz
            exact al v (hw v hv).1 (hw v hv).2
      · unfold b2aEnd
        simp only
        split
        · first | exact szm (by assumption) | exact sz (by lia) | (simp [sizeLine]; lia)
        · split
          · first | exact szm (by assumption) | exact sz (by lia) | (simp [sizeLine]; lia)
          · first | exact szm (by lia) | exact sz (by lia) | (simp [sizeLine]; lia)
      · ((repeat with_reducible refine sq_ret ?_); with_reducible refine fq_ret ?_)
        exact k v h₄ (Z₃.keep.trans k4) hv


set_option maxHeartbeats 200000
noncomputable def encB (ks : List Int) (al : Array UInt8) : Array UInt8 := (byteArr (b2aEnd (b2aRun ks))).map fun c => (transT [43, 47] al.toList).getD c.toNat c
theorem b2aEnd_len (ks : List Int) : (b2aEnd (b2aRun ks)).length ≤ 2 * ks.length + 3 := by
  have h := b2aRun_len ks ks.length
  rw [List.take_length] at h
  unfold b2aEnd
  split
  · simp; assumption
  · split <;> simp <;> lia
theorem byteArr_size (l : List Int) : (byteArr l).size = l.length := by simp [byteArr]
theorem b64encode_spec {C : Cx} {A : Around} {h : Heap} {P : Params} {n : Nat} {us : List Value} {b al : Array UInt8} {ks : List Int} {Q : Value → Heap → Prop} (hA : Rm (n + 3) A) (G : Gd (hd.heap_39 P) h) (hu : us.map pv = [.bytes b, .bytes al]) (hal : al.size = 2) (hk : KBw.bInts b = ks) (hz : ks.length ≤ 1000000)
    (k : ∀ v h', Keeps h h' → pv v = .bytes (encB ks al) → Q v h') : Cp C A (.call (.ref 111) ⟨us, []⟩) (fun fl h' => ∃ v, fl = .ret v ∧ Q v h') h := by
  have F := Fn.mk (K := hd.heap_39 P) (f := 111) (xs := ["s", "altchars"]) (ys := ["encoded"]) (by kernel_rfl) (fn_body (by k_is) (by exact rfl)) (by kernel_rfl) (by kernel_rfl) (fun _ => LocK.of (by kernel_rfl) (by kernel_rfl) (by decide +kernel)) (by kernel_rfl) (by kernel_rfl) (by kernel_rfl)
  obtain ⟨u1, u2, rfl⟩ := args2 hu
  have hT : (hd.heap_39 P).lookup (104 : Addr) = some ({ cls := .type "tuple", data := .seq #[.none] 0 } : Obj) := by kernel_rfl
  refine fn_enter (l := [("s", some (.bytes b)), ("altchars", some (.bytes al)), ("encoded", none)]) (vs := [u1, u2]) F hA G hu rfl (Bd.load (G.k _ _ hT) (by kernel_rfl) (by kernel_rfl)) rfl fun env h₁ E Z G' hR => ?_
  refine x_assign' (w_call_kw (gl_topE (v := .ref 103) G' E (by kernel_rfl) (by kernel_rfl)) (G'.fn (f := 103) (by kernel_rfl)) (by kernel_rfl) ?_)
  refine w_args_cons (Pe.use (by tm_at "pe") fun v hv => w_args_nil (w_kw1 (Pe.use (by tm_at "pe") fun w hw => ⟨G'.fn (f := 103) (by kernel_rfl), ?_⟩)))
  obtain rfl := pv_bool hw
  refine b2a_spec hR G' hv hk hz fun v h₂ k2 hv => w_store (Z.keeps k2) hv (by repeat' with_reducible constructor) fun h₃ Z₃ => ?_
  have G3 := G.keeps Z₃.keep
  refine x_if (t_cmp (by tm_at "pe") (by tm_at "pe") (by repeat' (show (_ : Prop); first | with_reducible refine' CmI.cm ?_ | with_reducible constructor | rfl)) rfl) (fun _ => ?_) (fun e => Bool.noConfusion (show true = false from e))
  refine x_assert (t_cmp (e_len_bytes (gl_bootE G3 E (by kernel_rfl) boot_len (by decide +kernel) (by kernel_rfl)) (by tm_at "pe") (by lia)) (by tm_at "pe") (by repeat' (show (_ : Prop); first | with_reducible refine' CmI.cm ?_ | with_reducible constructor | rfl)) (by rw [hal]; rfl)) ?_
  refine x_ret' ?_
  refine w_mcall (Pe.use (by tm_at "pe") fun ov hov => ?_)
  obtain ⟨tt, eo⟩ := pv_bytes hov
  subst eo
  refine ⟨_, _, mt_bytes slot_tr type_tr, ?_⟩
  refine w_callWith ?_
  refine w_args_cons ?_
  refine w_mcall ?_
  refine (gl_bootE G3 E (by kernel_rfl) boot_bytes (by decide +kernel) (by kernel_rfl)) _ _ ?_
  have fm : findCls (hd.heap_39 P) (.type "bytes") (.type "type") (Str.ofString "maketrans") = some (.val (.builtin "bytes.maketrans")) := by k_is
  refine ⟨_, _, mt_type G3 rfl (by kernel_rfl) fm (by kernel_rfl), ?_⟩
  refine w_callWith (w_args_cons (e_bytes.use fun v1 hv1 => w_args_cons (Pe.use (by tm_at "pe") fun v2 hv2 => w_args_nil ?_)))
  refine w_maketrans hv1 hv2 (by rw [hal]; rfl) fun w hw => w_args_nil ?_
  refine w_translate hov hw (transT_size _ _) ?_ fun z hz => ?_
  · rw [byteArr_size]
    have z := b2aEnd_len ks
    simp only [sizeLine]; lia
  · ((repeat with_reducible refine sq_ret ?_); with_reducible refine fq_ret ?_)
    exact k _ _ Z₃.keep hz


set_option maxHeartbeats 400000
theorem ascii_buffer_spec {C : Cx} {A : Around} {h : Heap} {P : Params} {n : Nat} {us : List Value} {b : Array UInt8} {Q : Value → Heap → Prop} (hA : Rm (n + 1) A) (G : Gd (hd.heap_39 P) h) (hu : us.map pv = [.bytes b])
    (k : ∀ v h', Keeps h h' → pv v = .bytes b → Q v h') : Cp C A (.call (.ref 66) ⟨us, []⟩) (fun fl h' => ∃ v, fl = .ret v ∧ Q v h') h := by
  have FF := Fn.mk (K := hd.heap_39 P) (f := 66) (xs := ["data"]) (ys := ["t"]) (by kernel_rfl) (fn_body (by k_is) (by exact rfl)) (by kernel_rfl) (by kernel_rfl) (fun _ => LocK.of (by kernel_rfl) (by kernel_rfl) (by decide +kernel)) (by kernel_rfl) (by kernel_rfl) (by kernel_rfl)
  obtain ⟨u, rfl, hu1⟩ := x_one hu
  refine fn_enter (l := [("data", some (.bytes b)), ("t", none)]) (vs := [u]) FF hA G hu rfl (Bd.of_eq (by kernel_rfl)) rfl fun env h₁ E Z G' hR => ?_
  refine x_assign Z (e_type (gl_bootE G' E (by kernel_rfl) boot_type (by decide +kernel) (by kernel_rfl)) (by tm_at "pe") (fun v t hv => by obtain ⟨_, rfl⟩ := pv_bytes hv; exact typeIs_bytes _ _ _)) (by repeat' with_reducible constructor) fun h₂ Z₂ => ?_
  have G2 := G.keeps Z₂.keep
  refine x_if (t_cmp (by tm_at "pe") (e_gl (gl_bootE G2 E (by kernel_rfl) boot_str (by decide +kernel) (by kernel_rfl))) (c_is_typ rfl (by decide +kernel)) rfl) (fun e => absurd e (by decide +kernel)) (fun _ => ?_)
  refine x_done ?_
  refine x_if (t_cmp (by tm_at "pe") (e_gl (gl_bootE G2 E (by kernel_rfl) boot_bytes (by decide +kernel) (by kernel_rfl))) (c_is_typ rfl (by decide +kernel)) rfl) (fun _ => ?_) (fun e => absurd e (by decide +kernel))
  refine x_ret (by tm_at "pe") fun v hv => ?_
  ((repeat with_reducible refine sq_ret ?_); with_reducible refine fq_ret ?_)
  exact k v _ Z₂.keep hv
theorem bfd_str_spec {C : Cx} {A : Around} {h : Heap} {P : Params} {n : Nat} {us : List Value} {s : Str} {Q : Value → Heap → Prop} (hA : Rm (n + 1) A) (G : Gd (hd.heap_39 P) h) (hu : us.map pv = [.str s]) (ha : s.cps.all (· < 128) = true) (hz : s.cps.size ≤ sizeLine)
    (k : ∀ v h', Keeps h h' → pv v = .bytes (s.cps.map (·.toUInt8)) → Q v h') : Cp C A (.call (.ref 46) ⟨us, []⟩) (fun fl h' => ∃ v, fl = .ret v ∧ Q v h') h := by
  have FF := Fn.mk (K := hd.heap_39 P) (f := 46) (xs := ["s"]) (ys := []) (by kernel_rfl) (fn_body (by k_is) (by exact rfl)) (by kernel_rfl) (by kernel_rfl) (fun _ => LocK.of (by kernel_rfl) (by kernel_rfl) (by decide +kernel)) (by kernel_rfl) (by kernel_rfl) (by kernel_rfl)
  obtain ⟨u, rfl, hu1⟩ := x_one hu
  refine fn_enter (l := [("s", some (.str s))]) (vs := [u]) FF hA G hu rfl (Bd.of_eq (by kernel_rfl)) rfl fun env h₁ E Z G' hR => ?_
  refine x_if (t_bool (e_isinst G' (gl_bootE G' E (by kernel_rfl) boot_isinstance (by decide +kernel) (by kernel_rfl)) (by tm_at "pe") (e_gl (gl_bootE G' E (by kernel_rfl) boot_str (by decide +kernel) (by kernel_rfl))) (fun _ e => pv_typ e) (fun v hv => by obtain ⟨_, rfl⟩ := pv_str hv; exact kitx_str) (fun v hv => by obtain ⟨_, rfl⟩ := pv_str hv; intro e; cases e) (b := true) (by kernel_rfl))) (fun _ => ?_) (fun e => absurd e (by decide))
  refine x_try ?_
  refine x_ret' ?_
  refine w_mcall (Pe.use (by tm_at "pe") fun ov hov => ?_)
  obtain ⟨tt, eo⟩ := pv_str hov
  subst eo
  refine ⟨_, _, mt_str F.slot_str_encode F.type_str_encode, ?_⟩
  refine w_callWith ?_
  refine w_args_cons (Pe.use (by tm_at "pe") fun v2 hv2 => w_args_nil ?_)
  refine w_encode hov hv2 ha hz fun w hw => ?_
  ((repeat with_reducible refine sq_ret ?_); with_reducible refine fq_ret ?_)
  exact k _ _ Z.keep hw
theorem bfd_bytes_spec {C : Cx} {A : Around} {h : Heap} {P : Params} {n : Nat} {us : List Value} {b : Array UInt8} {Q : Value → Heap → Prop} (hA : Rm (n + 1) A) (G : Gd (hd.heap_39 P) h) (hu : us.map pv = [.bytes b])
    (k : ∀ v h', Keeps h h' → pv v = .bytes b → Q v h') : Cp C A (.call (.ref 46) ⟨us, []⟩) (fun fl h' => ∃ v, fl = .ret v ∧ Q v h') h := by
  have FF := Fn.mk (K := hd.heap_39 P) (f := 46) (xs := ["s"]) (ys := []) (by kernel_rfl) (fn_body (by k_is) (by exact rfl)) (by kernel_rfl) (by kernel_rfl) (fun _ => LocK.of (by kernel_rfl) (by kernel_rfl) (by decide +kernel)) (by kernel_rfl) (by kernel_rfl) (by kernel_rfl)
  obtain ⟨u, rfl, hu1⟩ := x_one hu
  refine fn_enter (l := [("s", some (.bytes b))]) (vs := [u]) FF hA G hu rfl (Bd.of_eq (by kernel_rfl)) rfl fun env h₁ E Z G' hR => ?_
  refine x_if (t_bool (e_isinst G' (gl_bootE G' E (by kernel_rfl) boot_isinstance (by decide +kernel) (by kernel_rfl)) (by tm_at "pe") (e_gl (gl_bootE G' E (by kernel_rfl) boot_str (by decide +kernel) (by kernel_rfl))) (fun _ e => pv_typ e) (fun v hv => by obtain ⟨_, rfl⟩ := pv_bytes hv; exact kitx_bytes) (fun v hv => by obtain ⟨_, rfl⟩ := pv_bytes hv; intro e; cases e) (b := false) (by kernel_rfl))) (fun e => absurd e (by decide)) (fun _ => ?_)
  refine x_done ?_
  have hT : (hd.heap_39 P).lookup (39 : Addr) = some ({ cls := .type "tuple", data := .seq [.type "bytes", .type "bytearray"].toArray 0 } : Obj) := by kernel_rfl
  refine x_if (t_bool (e_isinst_tup G' (gl_bootE G' E (by kernel_rfl) boot_isinstance (by decide +kernel) (by kernel_rfl)) (by tm_at "pe") (e_gl (gl_topE (v := .ref 39) G' E (by kernel_rfl) (by kernel_rfl))) (fun v hv => by obtain ⟨_, rfl⟩ := pv_bytes hv; exact kitx_bytes) (fun v hv => by obtain ⟨_, rfl⟩ := pv_bytes hv; intro e; cases e) (G'.k _ _ hT) (b := true) (by kernel_rfl))) (fun _ => ?_) (fun e => absurd e (by decide))
  refine x_ret (by tm_at "pe") fun v hv => ?_
  ((repeat with_reducible refine sq_ret ?_); with_reducible refine fq_ret ?_)
  exact k v _ Z.keep hv


set_option maxHeartbeats 400000
noncomputable def b64v (c : Int) : Int := if 65 ≤ c ∧ c ≤ 90 then c - 65 else if 97 ≤ c ∧ c ≤ 122 then c - 71 else if 48 ≤ c ∧ c ≤ 57 then c + 4 else if c = 43 then 62 else if c = 47 then 63 else 64
theorem b64v_spec {C : Cx} {A : Around} {h : Heap} {P : Params} {n : Nat} {us : List Value} {c : Int} {Q : Value → Heap → Prop} (hA : Rm (n + 1) A) (G : Gd (hd.heap_39 P) h) (hu : us.map pv = [.int c])
    (k : ∀ v h', Keeps h h' → pv v = .int (b64v c) → Q v h') : Cp C A (.call (.ref 87) ⟨us, []⟩) (fun fl h' => ∃ v, fl = .ret v ∧ Q v h') h := by
  have FF := Fn.mk (K := hd.heap_39 P) (f := 87) (xs := ["c"]) (ys := []) (by kernel_rfl) (fn_body (by k_is) (by exact rfl)) (by kernel_rfl) (by kernel_rfl) (fun _ => LocK.of (by kernel_rfl) (by kernel_rfl) (by decide +kernel)) (by kernel_rfl) (by kernel_rfl) (by kernel_rfl)
  obtain ⟨u, rfl, hu1⟩ := x_one hu
  refine fn_enter (l := [("c", some (.int c))]) (vs := [u]) FF hA G hu rfl (Bd.of_eq (by kernel_rfl)) rfl fun env h₁ E Z G' hR => ?_
  refine x_if (t_chain (by tm_at "pe") (by tm_at "pe") (by tm_at "pe") (by repeat' (show (_ : Prop); first | with_reducible refine' CmI.cm ?_ | with_reducible constructor | rfl)) (by repeat' (show (_ : Prop); first | with_reducible refine' CmI.cm ?_ | with_reducible constructor | rfl)) rfl) (fun e => ?_) (fun e0 => ?_)
  · refine x_ret (by tm_at "pe") fun v hv => ?_
    ((repeat with_reducible refine sq_ret ?_); with_reducible refine fq_ret ?_)
    refine k v _ Z.keep ?_
    rw [hv]; simp at e; unfold b64v; congr 1; split <;> lia
  simp at e0
  refine x_done ?_
  refine x_if (t_chain (by tm_at "pe") (by tm_at "pe") (by tm_at "pe") (by repeat' (show (_ : Prop); first | with_reducible refine' CmI.cm ?_ | with_reducible constructor | rfl)) (by repeat' (show (_ : Prop); first | with_reducible refine' CmI.cm ?_ | with_reducible constructor | rfl)) rfl) (fun e => ?_) (fun e1 => ?_)
  · refine x_ret (by tm_at "pe") fun v hv => ?_
    ((repeat with_reducible refine sq_ret ?_); with_reducible refine fq_ret ?_)
    refine k v _ Z.keep ?_
    rw [hv]; simp at e; unfold b64v; congr 1; split <;> lia
  simp at e1
  refine x_done ?_
  refine x_if (t_chain (by tm_at "pe") (by tm_at "pe") (by tm_at "pe") (by repeat' (show (_ : Prop); first | with_reducible refine' CmI.cm ?_ | with_reducible constructor | rfl)) (by repeat' (show (_ : Prop); first | with_reducible refine' CmI.cm ?_ | with_reducible constructor | rfl)) rfl) (fun e => ?_) (fun e2 => ?_)
  · refine x_ret (by tm_at "pe") fun v hv => ?_
    ((repeat with_reducible refine sq_ret ?_); with_reducible refine fq_ret ?_)
    refine k v _ Z.keep ?_
    rw [hv]; simp at e; unfold b64v; congr 1; split <;> lia
  simp at e2
  refine x_done ?_
  refine x_if (t_cmp (by tm_at "pe") (by tm_at "pe") (by repeat' (show (_ : Prop); first | with_reducible refine' CmI.cm ?_ | with_reducible constructor | rfl)) rfl) (fun e => ?_) (fun e3 => ?_)
  · refine x_ret (by tm_at "pe") fun v hv => ?_
    ((repeat with_reducible refine sq_ret ?_); with_reducible refine fq_ret ?_)
    refine k v _ Z.keep ?_
    rw [hv]; simp at e; unfold b64v; congr 1; split <;> lia
  simp at e3
  refine x_done ?_
  refine x_if (t_cmp (by tm_at "pe") (by tm_at "pe") (by repeat' (show (_ : Prop); first | with_reducible refine' CmI.cm ?_ | with_reducible constructor | rfl)) rfl) (fun e => ?_) (fun e4 => ?_)
  · refine x_ret (by tm_at "pe") fun v hv => ?_
    ((repeat with_reducible refine sq_ret ?_); with_reducible refine fq_ret ?_)
    refine k v _ Z.keep ?_
    rw [hv]; simp at e; unfold b64v; congr 1; split <;> lia
  simp at e4
  refine x_done ?_
  refine x_ret (by tm_at "pe") fun v hv => ?_
  ((repeat with_reducible refine sq_ret ?_); with_reducible refine fq_ret ?_)
  refine k v _ Z.keep ?_
  rw [hv]; unfold b64v; congr 1; split <;> lia


set_option maxHeartbeats 400000

theorem snoc_int (w : List Int) (v : Int) : (w ++ [v]).map PV.int = w.map PV.int ++ [PV.int v] := by simp
structure A2 where
  out : List Int
  quad : Int
  left : Int
  pads : Int
noncomputable def A2.step (s : A2) (c : Int) : A2 :=
  if c = 61 then ⟨s.out, s.quad, s.left, s.pads + 1⟩ else if 64 ≤ b64v c then s
  else if s.quad = 0 then ⟨s.out, 1, b64v c, 0⟩
  else if s.quad = 1 then ⟨s.out ++ [s.left * 4 + b64v c / 16], 2, b64v c % 16, 0⟩
  else if s.quad = 2 then ⟨s.out ++ [s.left * 16 + b64v c / 4], 3, b64v c % 4, 0⟩
  else ⟨s.out ++ [s.left * 64 + b64v c], 0, 0, 0⟩
noncomputable def a2bRun (ks : List Int) : A2 := ks.foldl A2.step ⟨[], 0, 0, 0⟩
theorem a2bRun_take {ks : List Int} {i : Nat} {b : Int} (h : ks[i]? = some b) : a2bRun (ks.take (i + 1)) = (a2bRun (ks.take i)).step b := by
  unfold a2bRun
  rw [List.take_succ, h]
  simp
structure A2Ok (s : A2) : Prop where
  st : s.quad = 0 ∧ s.left = 0 ∨ s.quad = 1 ∧ 0 ≤ s.left ∧ s.left < 64 ∨ s.quad = 2 ∧ 0 ≤ s.left ∧ s.left < 16 ∨ s.quad = 3 ∧ 0 ≤ s.left ∧ s.left < 4
  vals : ∀ v ∈ s.out, 0 ≤ v ∧ v < 256
theorem b64v_nn (c : Int) : 0 ≤ b64v c := by unfold b64v; (repeat' split) <;> lia
theorem a2step_ok {s : A2} (c : Int) (h : A2Ok s) : A2Ok (s.step c) := by
  have h0 := b64v_nn c
  have hs := h.st
  have hv := h.vals
  have snoc : ∀ x : Int, 0 ≤ x → x < 256 → ∀ v ∈ s.out ++ [x], 0 ≤ v ∧ v < 256 := fun x a b v m => by
    simp only [List.mem_append, List.mem_singleton] at m
    rcases m with m | m
    · exact hv v m
    · lia
  unfold A2.step
  by_cases e : c = 61
  · rw [if_pos e]; exact ⟨hs, hv⟩
  rw [if_neg e]
  by_cases e1 : 64 ≤ b64v c
  · rw [if_pos e1]; exact h
  rw [if_neg e1]
  by_cases e2 : s.quad = 0
  · rw [if_pos e2]; exact ⟨.inr (.inl ⟨rfl, h0, by show b64v c < 64; lia⟩), hv⟩
  rw [if_neg e2]
  by_cases e3 : s.quad = 1
  · rw [if_pos e3]; exact ⟨.inr (.inr (.inl ⟨rfl, by show 0 ≤ b64v c % 16; lia, by show b64v c % 16 < 16; lia⟩)), snoc _ (by lia) (by lia)⟩
  rw [if_neg e3]
  by_cases e4 : s.quad = 2
  · rw [if_pos e4]; exact ⟨.inr (.inr (.inr ⟨rfl, by show 0 ≤ b64v c % 4; lia, by show b64v c % 4 < 4; lia⟩)), snoc _ (by lia) (by lia)⟩
  rw [if_neg e4]; exact ⟨.inl ⟨rfl, rfl⟩, snoc _ (by lia) (by lia)⟩
theorem a2bRun_ok (ks : List Int) : A2Ok (a2bRun ks) := by
  have : ∀ (ks : List Int) (s : A2), A2Ok s → A2Ok (ks.foldl A2.step s) := by
    intro ks
    induction ks with
    | nil => intro s h; exact h
    | cons c ks ih => intro s h; exact ih _ (a2step_ok c h)
  exact this ks _ ⟨.inl ⟨rfl, rfl⟩, fun v m => by simp at m⟩
theorem a2step_len (s : A2) (c : Int) : (s.step c).out.length ≤ s.out.length + 1 := by
  unfold A2.step
  (repeat' split) <;> simp
theorem a2bRun_len (ks : List Int) : (a2bRun ks).out.length ≤ ks.length := by
  have : ∀ (ks : List Int) (s : A2), (ks.foldl A2.step s).out.length ≤ s.out.length + ks.length := by
    intro ks
    induction ks with
    | nil => intro s; simp
    | cons c ks ih =>
      intro s
      have := ih (s.step c)
      have := a2step_len s c
      simp only [List.foldl_cons, List.length_cons]; lia
  simpa [a2bRun] using this ks ⟨[], 0, 0, 0⟩

theorem a2b_spec {C : Cx} {A : Around} {h : Heap} {P : Params} {n : Nat} {u : Value} {b : Array UInt8} {ks : List Int} {Q : Value → Heap → Prop} (hA : Rm (n + 2) A) (G : Gd (hd.heap_39 P) h) (hu : pv u = .bytes b) (hk : KBw.bInts b = ks) (hz : ks.length ≤ 1000000)
    (hend : (a2bRun ks).quad = 0 ∨ 2 ≤ (a2bRun ks).quad ∧ 4 ≤ (a2bRun ks).quad + (a2bRun ks).pads)
    (k : ∀ v h', Keeps h h' → pv v = .bytes (byteArr (a2bRun ks).out) → Q v h') : Cp C A (.call (.ref 95) ⟨[u], [("strict_mode", .bool false)]⟩) (fun fl h' => ∃ v, fl = .ret v ∧ Q v h') h := by
  have F := Fn.mk (K := hd.heap_39 P) (f := 95) (xs := ["data", "strict_mode"]) (ys := ["ascii_data", "out", "quad_pos", "leftchar", "pads", "i", "this_ch"]) (by kernel_rfl) (fn_body (by k_is) (by exact rfl)) (by kernel_rfl) (by kernel_rfl) (fun _ => LocK.of (by kernel_rfl) (by kernel_rfl) (by decide +kernel)) (by kernel_rfl) (by kernel_rfl) (by kernel_rfl)
  have hsz : b.size = ks.length := by rw [← hk, KBw.ints_length]
  refine fn_enter (l := [("data", some (.bytes b)), ("strict_mode", some (.bool false)), ("ascii_data", none), ("out", none), ("quad_pos", none), ("leftchar", none), ("pads", none), ("i", none), ("this_ch", none)]) (vs := [u, .bool false]) (ps := [.bytes b, .bool false]) F hA G (by show [pv u, pv (Value.bool false)] = _; rw [hu]; rfl) rfl (Bd.of_eq (by kernel_rfl)) rfl fun env h₁ E Z G' hR => ?_
  refine x_assign' (w_call (gl_topE (v := .ref 66) G' E (by kernel_rfl) (by kernel_rfl)) (G'.fn (f := 66) (by kernel_rfl)) (ps_cons (by tm_at "pe") ps_nil) fun vs hvs => ascii_buffer_spec hR G' hvs fun v h₂ k2 hv => w_store (Z.keeps k2) hv (by repeat' with_reducible constructor) fun h₃ Z₃ => ?_)
  have G3 := G.keeps Z₃.keep
  refine x_assign' (w_call (gl_topE (v := .ref 80) G3 E (by kernel_rfl) (by kernel_rfl)) (G3.fn (f := 80) (by kernel_rfl)) (ps_cons (by tm_at "pe") ps_nil) fun vs hvs => truth_spec hR G3 hvs fun v h₄ k4 hv => w_store (Z₃.keeps k4) hv (by repeat' with_reducible constructor) fun h₅ Z₅ => ?_)
  refine x_assign' (w_List (w_args_nil (w_newList Z₅ (by decide) fun o h₆ Z₆ => w_store Z₆ rfl (by repeat' with_reducible constructor) fun h₇ Z₇ => ?_)))
  refine x_assign Z₇ (by tm_at "pe") (by repeat' with_reducible constructor) fun h₈ Z₈ => ?_
  refine x_assign Z₈ (by tm_at "pe") (by repeat' with_reducible constructor) fun h₉ Z₉ => ?_
  refine x_assign Z₉ (by tm_at "pe") (by repeat' with_reducible constructor) fun h₁₀ Z₁₀ => ?_
  refine x_assign Z₁₀ (by tm_at "pe") (by repeat' with_reducible constructor) fun h₁₁ Z₁₁ => ?_
  clear Z Z₃ Z₅ Z₆ Z₇ Z₈ Z₉ Z₁₀
  refine x_forX (fun h' => ∃ j : Int, St env h [("data", none), ("strict_mode", some (.bool false)), ("ascii_data", none), ("out", some (.ref o)), ("quad_pos", some (.int (a2bRun ks).quad)), ("leftchar", some (.int (a2bRun ks).left)), ("pads", some (.int (a2bRun ks).pads)), ("i", some (.int j)), ("this_ch", none)] [(o, .list ((a2bRun ks).out.map PV.int))] h') ?_ ?_
  · intro S kS
    refine Pe.use (p := .bytes b) (by tm_at "pe") fun v hv => w_iter_bytes Z₁₁ hv fun it h₂ Z₂ => ?_
    have Z₃ : St env h [("data", none), ("strict_mode", some (.bool false)), ("ascii_data", none), ("out", some (.ref o)), ("quad_pos", some (.int 0)), ("leftchar", some (.int 0)), ("pads", some (.int 0)), ("i", some (.int 0)), ("this_ch", none)] [(it, bitO b 0), (o, .list [])] h₂ := Z₂.wk (.forget (.keep (.forget (.keep (.keep (.keep (.keep (.keep (.keep .nil)))))))))
    clear Z₂ Z₁₁
    refine w_forN ks.length (fun i h' => St env h [("data", none), ("strict_mode", some (.bool false)), ("ascii_data", none), ("out", some (.ref o)), ("quad_pos", some (.int (a2bRun (ks.take i)).quad)), ("leftchar", some (.int (a2bRun (ks.take i)).left)), ("pads", some (.int (a2bRun (ks.take i)).pads)), ("i", some (.int ((i : Nat) : Int))), ("this_ch", none)] [(it, bitO b i), (o, .list ((a2bRun (ks.take i)).out.map PV.int))] h') ?_ ?_ (by rw [List.take_zero]; exact Z₃)
    · rintro i h₄ hi Z R kR
      obtain ⟨c, hc⟩ : ∃ c, ks[i]? = some c := ⟨ks[i], List.getElem?_eq_getElem hi⟩
      have ok := a2bRun_ok (ks.take i)
      have hlen := a2bRun_len (ks.take i)
      rw [List.length_take] at hlen
      rw [a2bRun_take hc] at kR
      obtain ⟨w, qd, lf, pd, hst⟩ : ∃ w qd lf pd, a2bRun (ks.take i) = ⟨w, qd, lf, pd⟩ := ⟨_, _, _, _, rfl⟩
      rw [hst] at kR ok hlen Z
      have hs := ok.st
      clear ok hst
      dsimp only at hs Z hlen
      generalize hIT : bitO b (i + 1) = IT at kR
      have fin : ∀ {f : Flow} (hf : f = .next ∨ f = .cont) {w' : List Int} {qd' lf' pd' : Int} {q : Option PV} {h' : Heap}, A2.step ⟨w, qd, lf, pd⟩ c = ⟨w', qd', lf', pd'⟩ → St env h [("data", none), ("strict_mode", some (.bool false)), ("ascii_data", none), ("out", some (.ref o)), ("quad_pos", some (.int qd')), ("leftchar", some (.int lf')), ("pads", some (.int pd')), ("i", some (.int (((i : Nat) : Int) + 1))), ("this_ch", q)] [(it, IT), (o, .list (w'.map PV.int))] h' → R f h' := by
        intro f hf w' qd' lf' pd' q h' hstep Z
        rw [hstep] at kR
        rw [show ((i + 1 : Nat) : Int) = ((i : Nat) : Int) + 1 from rfl] at kR
        have Z := Z.wk (l' := [("data", none), ("strict_mode", some (.bool false)), ("ascii_data", none), ("out", some (.ref o)), ("quad_pos", some (.int qd')), ("leftchar", some (.int lf')), ("pads", some (.int pd')), ("i", some (.int (((i : Nat) : Int) + 1))), ("this_ch", none)]) (by repeat' first | with_reducible constructor | refine' Wk.keep ?_)
        rcases hf with rfl | rfl
        · exact kR (lp_next Z)
        · exact kR (lp_cont Z)
      clear kR
      refine next_bytes Z (by repeat' with_reducible constructor) (by repeat' with_reducible constructor) (by rw [hk]; exact hc) fun v h₅ hv Z₅ => ⟨v, rfl, w_store Z₅ hv (by repeat' with_reducible constructor) fun h₆ Z₆ => ?_⟩
      clear Z Z₅
      rw [hIT] at Z₆
      revert IT
      refine blk ?_
      intro IT hIT fin Z₆
      refine x_if (t_cmp (by tm_at "pe") (by tm_at "pe") (by repeat' (show (_ : Prop); first | with_reducible refine' CmI.cm ?_ | with_reducible constructor | rfl)) rfl) (fun e => ?_) (fun e => ?_)
      · simp only [decide_eq_true_eq] at e
        subst e
        refine x_assign Z₆ (by tm_at "pe") (by repeat' with_reducible constructor) fun h₇ Z₇ => ?_
        refine x_if (t_and2 (t_cmp (by tm_at "pe") (by tm_at "pe") (by repeat' (show (_ : Prop); first | with_reducible refine' CmI.cm ?_ | with_reducible constructor | rfl)) rfl) (fun _ => t_cmp (by tm_at "pe") (by tm_at "pe") (by repeat' (show (_ : Prop); first | with_reducible refine' CmI.cm ?_ | with_reducible constructor | rfl)) rfl)) (fun _ => ?_) (fun _ => ?_)
        · refine x_assign Z₇ (by tm_at "pe") (by repeat' with_reducible constructor) fun h₈ Z₈ => ?_
          exact x_cont (sq_cont (sq_cont (fin (.inr rfl) (by simp [A2.step]) Z₈)))
        · refine x_done (x_if (t_not (t_bool (by tm_at "pe"))) (fun _ => ?_) (fun e => absurd e (by decide)))
          refine x_assign Z₇ (by tm_at "pe") (by repeat' with_reducible constructor) fun h₈ Z₈ => ?_
          exact x_cont (sq_cont (sq_cont (fin (.inr rfl) (by simp [A2.step]) Z₈)))
      · simp only [decide_eq_false_iff_not] at e
        have G6 := G.keeps Z₆.keep
        refine x_done (x_assign' (w_call (gl_topE (v := .ref 87) G6 E (by kernel_rfl) (by kernel_rfl)) (G6.fn (f := 87) (by kernel_rfl)) (ps_cons (by tm_at "pe") ps_nil) fun vs hvs => b64v_spec hR G6 hvs fun v h₇ k7 hv => w_store (Z₆.keeps k7) hv (by repeat' with_reducible constructor) fun h₈ Z₈ => ?_))
        have hv0 := b64v_nn c
        refine x_if (t_cmp (by tm_at "pe") (by tm_at "pe") (by repeat' (show (_ : Prop); first | with_reducible refine' CmI.cm ?_ | with_reducible constructor | rfl)) rfl) (fun e1 => ?_) (fun e1 => ?_)
        · simp only [decide_eq_true_eq] at e1
          refine x_if (t_bool (by tm_at "pe")) (fun e => absurd e (by decide)) (fun _ => x_done ?_)
          refine x_assign Z₈ (by tm_at "pe") (by repeat' with_reducible constructor) fun h₉ Z₉ => ?_
          exact x_cont (sq_cont (fin (.inr rfl) (by simp [A2.step, e, e1]) Z₉))
        · simp only [decide_eq_false_iff_not] at e1
          refine x_done (x_if (t_and2 (t_int (by tm_at "pe")) (fun _ => t_bool (by tm_at "pe"))) (fun e => absurd e (by simp)) (fun _ => x_done ?_))
          refine x_assign Z₈ (by tm_at "pe") (by repeat' with_reducible constructor) fun h₉ Z₉ => ?_
          clear Z₆ Z₈
          refine x_if (t_cmp (by tm_at "pe") (by tm_at "pe") (by repeat' (show (_ : Prop); first | with_reducible refine' CmI.cm ?_ | with_reducible constructor | rfl)) rfl) (fun e2 => ?_) (fun e2 => ?_)
          · simp only [decide_eq_true_eq] at e2
            refine x_assign Z₉ (by tm_at "pe") (by repeat' with_reducible constructor) fun hA ZA => ?_
            refine x_assign ZA (by tm_at "pe") (by repeat' with_reducible constructor) fun hB ZB => x_done ?_
            refine x_assign ZB (by tm_at "pe") (by repeat' with_reducible constructor) fun hC ZC => ?_
            exact x_nil (fin (.inl rfl) (by simp [A2.step, e, e1, e2]) ZC)
          · simp only [decide_eq_false_iff_not] at e2
            refine x_if (t_cmp (by tm_at "pe") (by tm_at "pe") (by repeat' (show (_ : Prop); first | with_reducible refine' CmI.cm ?_ | with_reducible constructor | rfl)) rfl) (fun e3 => ?_) (fun e3 => ?_)
            · simp only [decide_eq_true_eq] at e3
              refine x_assign Z₉ (by tm_at "pe") (by repeat' with_reducible constructor) fun hA ZA => ?_
              have v1 : Builtin.bitOr (lf * 2 ^ (2 : Int).toNat) ((b64v c).fdiv (2 ^ (4 : Int).toNat)) = lf * 4 + b64v c / 16 := by
                rw [show (2 : Int).toNat = 2 from rfl, show (4 : Int).toNat = 4 from rfl, Int.fdiv_eq_ediv_of_nonneg _ (by decide), bor 2 (by lia) (by lia) (by lia)]; rfl
              have v2 : Builtin.bitAnd (b64v c) 15 = b64v c % 16 := bitAnd_m4 _
              have e0 : (Builtin.Int.intBits lf : Int) + 2 ≤ 2 ^ 27 := by
                have := intBits_le_64 (k := lf) (by lia) (by lia)
                lia
              refine x_append ZA (by tm_at "pe") (p := .int (lf * 4 + b64v c / 16)) (by rw [← v1]; exact e_or (e_lshift (by tm_at "pe") (by tm_at "pe") (by decide) e0) (e_rshift (by tm_at "pe") (by tm_at "pe") (by decide))) (by repeat' with_reducible constructor) (by repeat' with_reducible constructor) (by first | exact szm (by lia) | exact sz (by lia) | (simp [sizeLine]; lia)) (fun hB ZB => ?_) E.inter
              rw [← snoc_int] at ZB
              refine x_assign ZB (p := .int (b64v c % 16)) (by rw [← v2]; exact e_and (by tm_at "pe") (by tm_at "pe")) (by repeat' with_reducible constructor) fun hC ZC => x_done (x_done ?_)
              refine x_assign ZC (by tm_at "pe") (by repeat' with_reducible constructor) fun hD ZD => ?_
              exact x_nil (fin (.inl rfl) (by simp [A2.step, e, e1, e2, e3]) ZD)
            · simp only [decide_eq_false_iff_not] at e3
              refine x_if (t_cmp (by tm_at "pe") (by tm_at "pe") (by repeat' (show (_ : Prop); first | with_reducible refine' CmI.cm ?_ | with_reducible constructor | rfl)) rfl) (fun e4 => ?_) (fun e4 => ?_)
              · simp only [decide_eq_true_eq] at e4
                refine x_assign Z₉ (by tm_at "pe") (by repeat' with_reducible constructor) fun hA ZA => ?_
                have v1 : Builtin.bitOr (lf * 2 ^ (4 : Int).toNat) ((b64v c).fdiv (2 ^ (2 : Int).toNat)) = lf * 16 + b64v c / 4 := by
                  rw [show (2 : Int).toNat = 2 from rfl, show (4 : Int).toNat = 4 from rfl, Int.fdiv_eq_ediv_of_nonneg _ (by decide), bor 4 (by lia) (by lia) (by lia)]; rfl
                have v2 : Builtin.bitAnd (b64v c) 3 = b64v c % 4 := bitAnd_m2 _
                have e0 : (Builtin.Int.intBits lf : Int) + 4 ≤ 2 ^ 27 := by
                  have := intBits_le_64 (k := lf) (by lia) (by lia)
                  lia
                refine x_append ZA (by tm_at "pe") (p := .int (lf * 16 + b64v c / 4)) (by rw [← v1]; exact e_or (e_lshift (by tm_at "pe") (by tm_at "pe") (by decide) e0) (e_rshift (by tm_at "pe") (by tm_at "pe") (by decide))) (by repeat' with_reducible constructor) (by repeat' with_reducible constructor) (by first | exact szm (by lia) | exact sz (by lia) | (simp [sizeLine]; lia)) (fun hB ZB => ?_) E.inter
                rw [← snoc_int] at ZB
                refine x_assign ZB (p := .int (b64v c % 4)) (by rw [← v2]; exact e_and (by tm_at "pe") (by tm_at "pe")) (by repeat' with_reducible constructor) fun hC ZC => x_done (x_done (x_done ?_))
                refine x_assign ZC (by tm_at "pe") (by repeat' with_reducible constructor) fun hD ZD => ?_
                exact x_nil (fin (.inl rfl) (by simp [A2.step, e, e1, e2, e3, e4]) ZD)
              · simp only [decide_eq_false_iff_not] at e4
                refine x_assign Z₉ (by tm_at "pe") (by repeat' with_reducible constructor) fun hA ZA => ?_
                have v1 : Builtin.bitOr (lf * 2 ^ (6 : Int).toNat) (b64v c) = lf * 64 + b64v c := by
                  rw [show (6 : Int).toNat = 6 from rfl, bor 6 (by lia) (by assumption) (by lia)]; rfl
                have e0 : (Builtin.Int.intBits lf : Int) + 6 ≤ 2 ^ 27 := by
                  have := intBits_le_64 (k := lf) (by lia) (by lia)
                  lia
                refine x_append ZA (by tm_at "pe") (p := .int (lf * 64 + b64v c)) (by rw [← v1]; exact e_or (e_lshift (by tm_at "pe") (by tm_at "pe") (by decide) e0) (by tm_at "pe")) (by repeat' with_reducible constructor) (by repeat' with_reducible constructor) (by first | exact szm (by lia) | exact sz (by lia) | (simp [sizeLine]; lia)) (fun hB ZB => ?_) E.inter
                rw [← snoc_int] at ZB
                refine x_assign ZB (by tm_at "pe") (by repeat' with_reducible constructor) fun hC ZC => x_done (x_done (x_done ?_))
                refine x_assign ZC (by tm_at "pe") (by repeat' with_reducible constructor) fun hD ZD => ?_
                exact x_nil (fin (.inl rfl) (by simp [A2.step, e, e1, e2, e3, e4]) ZD)
    · rintro h₄ Z
      rw [List.take_length] at Z
      refine next_bytes_end hR.h Z (by lia) fun h₅ Z₅ => ⟨rfl, kS <| sx_next ⟨_, Z₅⟩⟩
  · rintro h₂ ⟨j, Z⟩
    have ok := a2bRun_ok ks
    have hlen := a2bRun_len ks
    generalize hst : a2bRun ks = st at *
    obtain ⟨w, qd, lf, pd⟩ := st
    have hs := ok.st
    have hw := ok.vals
    simp only at hs hw Z hlen hend
    have G2 := G.keeps Z.keep
    refine x_if (t_cmp (by tm_at "pe") (by tm_at "pe") (by repeat' (show (_ : Prop); first | with_reducible refine' CmI.cm ?_ | with_reducible constructor | rfl)) rfl) (fun e => absurd e (by simp; lia)) (fun _ => x_done ?_)
    refine x_if (t_and2 (t_cmp (by tm_at "pe") (by tm_at "pe") (by repeat' (show (_ : Prop); first | with_reducible refine' CmI.cm ?_ | with_reducible constructor | rfl)) rfl) (fun _ => t_cmp (by tm_at "pe") (by tm_at "pe") (by repeat' (show (_ : Prop); first | with_reducible refine' CmI.cm ?_ | with_reducible constructor | rfl)) rfl)) (fun e => absurd e (by simp; lia)) (fun _ => x_done ?_)
    refine x_ret' (w_call_ty (gl_bootE G2 E (by kernel_rfl) boot_bytes (by decide +kernel) (by kernel_rfl)) (w_args_cons (Pe.use (by tm_at "pe") fun v hv => w_args_nil ?_)))
    rw [pv_ref hv]
    refine w_bytes hR.h (Z.get .here) hw (by first | exact szm (by assumption) | exact sz (by exact Nat.le_trans (by assumption) (by assumption)) | (simp [sizeLine]; lia)) fun v h₄ hv k4 => ?_
    ((repeat with_reducible refine sq_ret ?_); with_reducible refine fq_ret ?_)
    exact k v h₄ (Z.keep.trans k4) hv
theorem b64decode_spec {C : Cx} {A : Around} {h : Heap} {P : Params} {n : Nat} {us : List Value} {s : Str} {al : Array UInt8} {ks : List Int} {Q : Value → Heap → Prop} (hA : Rm (n + 3) A) (G : Gd (hd.heap_39 P) h) (hu : us.map pv = [.str s, .bytes al]) (hal : al.size = 2) (ha : s.cps.all (· < 128) = true) (hz : s.cps.size ≤ 1000000)
    (hk : KBw.bInts ((s.cps.map (·.toUInt8)).map fun c => (transT al.toList [43, 47]).getD c.toNat c) = ks)
    (hend : (a2bRun ks).quad = 0 ∨ 2 ≤ (a2bRun ks).quad ∧ 4 ≤ (a2bRun ks).quad + (a2bRun ks).pads)
    (k : ∀ v h', Keeps h h' → pv v = .bytes (byteArr (a2bRun ks).out) → Q v h') : Cp C A (.call (.ref 119) ⟨us, []⟩) (fun fl h' => ∃ v, fl = .ret v ∧ Q v h') h := by
  have F := Fn.mk (K := hd.heap_39 P) (f := 119) (xs := ["s", "altchars", "validate"]) (ys := []) (by kernel_rfl) (fn_body (by k_is) (by exact rfl)) (by kernel_rfl) (by kernel_rfl) (fun _ => LocK.of (by kernel_rfl) (by kernel_rfl) (by decide +kernel)) (by kernel_rfl) (by kernel_rfl) (by kernel_rfl)
  obtain ⟨u1, u2, rfl⟩ := args2 hu
  have hkl : ks.length ≤ 1000000 := by rw [← hk, KBw.ints_length]; simpa using hz
  have hT : (hd.heap_39 P).lookup (112 : Addr) = some ({ cls := .type "tuple", data := .seq #[.none, .bool false] 0 } : Obj) := by kernel_rfl
  refine fn_enter (l := [("s", some (.str s)), ("altchars", some (.bytes al)), ("validate", some (.bool false))]) (vs := [u1, u2, .bool false]) (ps := [.str s, .bytes al, .bool false]) F hA G (by show [pv u1, pv u2, pv (Value.bool false)] = _; simp at hu; rw [hu.1, hu.2]; rfl) rfl (Bd.load (G.k _ _ hT) (by kernel_rfl) (by kernel_rfl)) rfl fun env h₁ E Z G' hR => ?_
  refine x_assign' (w_call (gl_topE (v := .ref 46) G' E (by kernel_rfl) (by kernel_rfl)) (G'.fn (f := 46) (by kernel_rfl)) (ps_cons (by tm_at "pe") ps_nil) fun vs hvs => bfd_str_spec hR G' hvs ha (by simp only [sizeLine]; exact Nat.le_trans (by assumption) (by decide)) fun v h₂ k2 hv => w_store (Z.keeps k2) hv (by repeat' with_reducible constructor) fun h₃ Z₃ => ?_)
  have G3 := G.keeps Z₃.keep
  refine x_if (t_cmp (by tm_at "pe") (by tm_at "pe") (by repeat' (show (_ : Prop); first | with_reducible refine' CmI.cm ?_ | with_reducible constructor | rfl)) rfl) (fun _ => ?_) (fun e => Bool.noConfusion (show true = false from e))
  refine x_assign' (w_call (gl_topE (v := .ref 46) G3 E (by kernel_rfl) (by kernel_rfl)) (G3.fn (f := 46) (by kernel_rfl)) (ps_cons (by tm_at "pe") ps_nil) fun vs hvs => bfd_bytes_spec hR G3 hvs fun v h₄ k4 hv => w_store (Z₃.keeps k4) hv (by repeat' with_reducible constructor) fun h₅ Z₅ => ?_)
  have G5 := G.keeps Z₅.keep
  refine x_assert (t_cmp (e_len_bytes (gl_bootE G5 E (by kernel_rfl) boot_len (by decide +kernel) (by kernel_rfl)) (by tm_at "pe") (by lia)) (by tm_at "pe") (by repeat' (show (_ : Prop); first | with_reducible refine' CmI.cm ?_ | with_reducible constructor | rfl)) (by rw [hal]; rfl)) ?_
  refine x_assign' ?_
  refine w_mcall (Pe.use (by tm_at "pe") fun ov hov => ?_)
  obtain ⟨tt, eo⟩ := pv_bytes hov
  subst eo
  refine ⟨_, _, mt_bytes slot_tr type_tr, ?_⟩
  refine w_callWith ?_
  refine w_args_cons ?_
  refine w_mcall ?_
  refine (gl_bootE G5 E (by kernel_rfl) boot_bytes (by decide +kernel) (by kernel_rfl)) _ _ ?_
  have fm : findCls (hd.heap_39 P) (.type "bytes") (.type "type") (Str.ofString "maketrans") = some (.val (.builtin "bytes.maketrans")) := by k_is
  refine ⟨_, _, mt_type G5 rfl (by kernel_rfl) fm (by kernel_rfl), ?_⟩
  refine w_callWith (w_args_cons (Pe.use (by tm_at "pe") fun v1 hv1 => w_args_cons (e_bytes.use fun v2 hv2 => w_args_nil ?_)))
  refine w_maketrans hv1 hv2 (by rw [hal]; rfl) fun w hw => w_args_nil ?_
  refine w_translate hov hw (transT_size _ _) (by rw [Array.size_map]; simp only [sizeLine]; exact Nat.le_trans (by assumption) (by decide)) fun z hz => ?_
  refine w_store Z₅ hz (by repeat' with_reducible constructor) fun h₆ Z₆ => x_done ?_
  have G6 := G.keeps Z₆.keep
  refine x_ret' (w_call_kw (gl_topE (v := .ref 95) G6 E (by kernel_rfl) (by kernel_rfl)) (G6.fn (f := 95) (by kernel_rfl)) (by kernel_rfl) ?_)
  refine w_args_cons (Pe.use (by tm_at "pe") fun v hv => w_args_nil (w_kw1 (Pe.use (by tm_at "pe") fun w hw => ⟨G6.fn (f := 95) (by kernel_rfl), ?_⟩)))
  obtain rfl := pv_bool hw
  refine a2b_spec hR G6 hv hk hkl hend fun v h₇ k7 hv => ?_
  ((repeat with_reducible refine sq_ret ?_); with_reducible refine fq_ret ?_)
  exact k v h₇ (Z₆.keep.trans k7) hv


set_option maxHeartbeats 400000
noncomputable abbrev lawEnv (P : Params) (L fa : Addr) : Env := envX (Str.ofString "law") (fdOf (hd.heap_39 P) 235).scope L fa (.ref 234) (cellsFrom (L + 1) (fdOf (hd.heap_39 P) 235).scope.names [])
noncomputable def stmtsOf : FuncBody → List Stmt
  | .stmts b => b
  | _ => []
theorem stmtsOf_s {b : List Stmt} : stmtsOf (.stmts b) = b := rfl
noncomputable def lawBody (P : Params) : List Stmt := stmtsOf (fdOf (hd.heap_39 P) 235).body
noncomputable def lawPost (h₀ : Heap) : Flow → Heap → Prop := fun f h' => f = .ret (.bool true) ∧ Keeps h₀ h' ∧ ∃ ps, h'.get? 232 = some (tabObj ps)
section
variable {C : Cx} {A : Around} {h h₀ h' : Heap} {env : Env} {l l' : List (Str × Option PV)} {cs cs' ds : List (Addr × AO)} {K : Frag}
theorem e_lenN {x : Str} {p0 pos : Pos} {e : Expr} {a : Addr} {ps : List PV} {n : Nat} {i : Int} (g : Gl C A env h x (.builtin "len")) (y : Pe C A env h e (.ref a)) (o : Own h a (.list ps)) (hn : ps.length = n) (hi : (n : Int) = i) (hz : n < 2 ^ 62)
    (he : starEach [e] env = (false, eval e env) :: starEach [] env := by rfl) : Pe C A env h (.Call (.Name x p0) [e] [] pos) (.int i) := by
  subst hn
  subst hi
  exact e_len g y o hz he
end
noncomputable def kvAt (xs : List Int) : PV → PV
  | .int k => .int (xs.getD k.toNat 0)
  | _ => .none
theorem sortOut_ints {b : Bool} {lt : PV → PV → Bool} {kv : PV → PV} {es : List Int} {kl : Nat → Nat → Bool} (W : WO kl) (h0 : 0 < es.length) (hk : ∀ i j, kl i j = ltb b lt (kv (.int (elAt es i))) (kv (.int (elAt es j)))) : ∃ xs : List Int, sortOut b lt kv (es.map PV.int) = xs.map PV.int := by
  obtain ⟨P, p1, p2, p3⟩ := sortOut_idx (b := b) (lt := lt) (kv := kv) (ps := es.map PV.int) W (by simpa using h0) (fun i j hi hj => by
    rw [List.length_map] at hi hj
    rw [elAt_pv hi, elAt_pv hj, hk])
  rw [List.length_map] at p1
  refine ⟨P.map (elAt es), ?_⟩
  rw [p3, List.map_map]
  exact List.map_congr_left fun i m => elAt_pv (List.mem_range.mp (p1.mem_iff.mp m))
theorem sortOut_shift {b : Bool} {xs ys : List Int} {ps : List PV} (h : ∀ k k' : Int, .int k ∈ ps → .int k' ∈ ps → decide (xs.getD k.toNat 0 < xs.getD k'.toNat 0) = decide (ys.getD k.toNat 0 < ys.getD k'.toNat 0)) (hp : ∀ p ∈ ps, ∃ k, p = .int k) : sortOut b ltI (kvAt xs) ps = sortOut b ltI (kvAt ys) ps := by
  have go : ∀ qs : List PV, (∀ q ∈ qs, q ∈ ps) → ssort ltI (kvAt xs) qs = ssort ltI (kvAt ys) qs := fun qs hq => by
    unfold ssort
    by_cases h0 : 0 < qs.length
    · rw [kev_congr (fun i j hi hj => ?_) _ (kp_sort h0)]
      have mi : qs.getD i .none ∈ ps := hq _ (gd_mem hi)
      have mj : qs.getD j .none ∈ ps := hq _ (gd_mem hj)
      obtain ⟨k, e1⟩ := hp _ mi
      obtain ⟨k', e2⟩ := hp _ mj
      rw [e1, e2]
      rw [e1] at mi
      rw [e2] at mj
      exact h k k' mi mj
    · have : qs = [] := by
        cases qs with
        | nil => rfl
        | cons => simp at h0
      subst this
      rfl
  cases b with
  | false => exact go ps fun _ m => m
  | true => exact congrArg List.reverse (go ps.reverse fun _ m => List.mem_reverse.mp m)
theorem ssort_len {lt : PV → PV → Bool} {kv : PV → PV} {ps : List PV} : (ssort lt kv ps).length = ps.length := by
  unfold ssort
  rw [List.length_map, Array.length_toList]
  by_cases h0 : 0 < ps.length
  · exact (kev_lt h0 _ (kp_sort h0)).1
  · have : ps = [] := by
      cases ps with
      | nil => rfl
      | cons => simp at h0
    subst this
    rfl
theorem sortOut_len {b : Bool} {lt : PV → PV → Bool} {kv : PV → PV} {ps : List PV} : (sortOut b lt kv ps).length = ps.length := by
  cases b with
  | false => exact ssort_len
  | true =>
    show (ssort lt kv ps.reverse).reverse.length = ps.length
    rw [List.length_reverse, ssort_len, List.length_reverse]
noncomputable def placesL : List Int := [0, 2, 4, 6, 8, 10, 12, 14, 16, 18, 19, 17, 15, 13, 11, 9, 7, 5, 3, 1]
theorem placesL_lt : ∀ x ∈ placesL, 0 ≤ x ∧ x < 20 := by decide
theorem places_eq : ((List.range 10).map fun i => PV.int (0 + (i : Nat) * 2)) ++ ((List.range 10).map fun i => PV.int (1 + (i : Nat) * 2)).reverse = placesL.map PV.int := by rfl

set_option maxHeartbeats 4000000
theorem law_t4 {C : Cx} {A : Around} {h h₀ : Heap} {P : Params} {m : Nat} {L fa pr cr lr : Addr} {costs : List Int} {c0 : Int} {pps : List PV} {cs : List (Addr × AO)} {q1 q2 q3 q4 q5 q6 q7 q8 q9 q10 : Option PV} (hR : Rm (m + 8) A) (G : Gd (hd.heap_39 P) h₀) (X : Lm h₀ 234 232)
    (hc : costs.length = 20) (hpl : pps.length = 20)
    (Z : St (lawEnv P L fa) h₀ [("script", q1), ("numbers", q2), ("lack", q3), ("values", q4), ("row", q5), ("counts", q6), ("pairs", some (.ref pr)), ("pair", q7), ("sent", q8), ("more", q9), ("back", q10), ("places", none), ("rising", none), ("falling", none), ("count", none)] ((pr, .list pps) :: (cr, .list (costs.map PV.int)) :: (lr, .list ((costs.map fun x => c0 + x).map PV.int)) :: (L + 3, celO (some (.ref lr))) :: (L + 2, celO (some (.ref cr))) :: (232, .raw (tabObj #[])) :: cs) h) :
    Wp C A (execs ((lawBody P).drop 10) (lawEnv P L fa)) (lawPost h₀) h := by
  have hb := fn_body (K := hd.heap_39 P) (f := 235) (by k_is) (by exact rfl)
  unfold lawBody
  rw [hb]
  simp only [stmtsOf_s, List.drop_succ_cons, List.drop_zero]
  have G1 := G.keeps Z.keep
  refine x_assignW (w_BinOp2 ?_)
  refine w_call_ty (gl_boot G1 (by kernel_rfl) boot_list (by decide +kernel) (by kernel_rfl) (by kernel_rfl) (by kernel_rfl) (by kernel_rfl)) (w_args_cons ?_)
  refine w_call_ty (gl_boot G1 (by kernel_rfl) boot_range (by decide +kernel) (by kernel_rfl) (by kernel_rfl) (by kernel_rfl) (by kernel_rfl)) (w_args_cons (Pe.use (p := .int 0) (by tm_at "pe") fun v0 hv0 => w_args_cons (Pe.use (p := .int 20) (e_lenN (gl_boot G1 (by kernel_rfl) boot_len (by decide +kernel) (by kernel_rfl) (by kernel_rfl) (by kernel_rfl) (by kernel_rfl)) (by tm_at "pe") (Z.get .here) hpl rfl (by decide)) fun v1 hv1 => w_args_cons (Pe.use (p := .int 2) (by tm_at "pe") fun v2 hv2 => w_args_nil ?_))))
  refine w_range3 Z hv0 hv1 hv2 (by decide) (by decide) fun r1 h₁ Z₁ => w_args_nil ?_
  refine w_listRange hR.h Z₁ (Z₁.get .here) (by decide +kernel) (show Builtin.Range.rangeSize 0 20 2 = ((10 : Nat) : Int) by decide) (by decide) fun l1 h₂ Z₂ => ?_
  have G2 := G.keeps Z₂.keep
  refine w_subscript ?_
  refine w_call_ty (gl_boot G2 (by kernel_rfl) boot_list (by decide +kernel) (by kernel_rfl) (by kernel_rfl) (by kernel_rfl) (by kernel_rfl)) (w_args_cons ?_)
  refine w_call_ty (gl_boot G2 (by kernel_rfl) boot_range (by decide +kernel) (by kernel_rfl) (by kernel_rfl) (by kernel_rfl) (by kernel_rfl)) (w_args_cons (Pe.use (p := .int 1) (by tm_at "pe") fun v0 hv0 => w_args_cons (Pe.use (p := .int 20) (e_lenN (gl_boot G2 (by kernel_rfl) boot_len (by decide +kernel) (by kernel_rfl) (by kernel_rfl) (by kernel_rfl) (by kernel_rfl)) (by tm_at "pe") (Z₂.get (by repeat' with_reducible constructor)) hpl rfl (by decide)) fun v1 hv1 => w_args_cons (Pe.use (p := .int 2) (by tm_at "pe") fun v2 hv2 => w_args_nil ?_))))
  refine w_range3 Z₂ hv0 hv1 hv2 (by decide) (by decide) fun r2 h₃ Z₃ => w_args_nil ?_
  refine w_listRange hR.h Z₃ (Z₃.get .here) (by decide +kernel) (show Builtin.Range.rangeSize 1 20 2 = ((10 : Nat) : Int) by decide) (by decide) fun l2 h₄ Z₄ => ?_
  refine w_sliceTail (lo := none) (hi := none) (st := some (-1)) Z₄ (Z₄.get .here) trivial trivial (show Pe _ _ _ _ _ _ from (by tm_at "pe")) (by decide) (by first | decide | simp [sizeLine]) fun l3 h₅ Z₅ => ?_
  rw [pick_rev] at Z₅
  refine w_addList Z₅ (Z₅.get (by repeat' with_reducible constructor)) (Z₅.get .here) (by first | decide | simp [sizeLine]) fun pl h₆ Z₆ => ⟨.ref pl, _, _, _, _, rfl, Z₆, (by repeat' with_reducible constructor), fun h₇ Z₇ => ?_⟩
  rw [places_eq] at Z₇
  replace Z₇ := Z₇.sub (cs' := [(pl, .list (placesL.map PV.int)), (cr, .list (costs.map PV.int)), (lr, .list ((costs.map fun x => c0 + x).map PV.int)), (L + 3, celO (some (.ref lr))), (L + 2, celO (some (.ref cr))), (232, .raw (tabObj #[]))]) ((((((((List.nil_sublist cs).cons_cons _).cons_cons _).cons_cons _).cons_cons _).cons_cons _).cons _ |>.cons _ |>.cons _ |>.cons _ |>.cons _ |>.cons _).cons_cons _)
  clear Z Z₁ Z₂ Z₃ Z₄ Z₅ Z₆ G1 G2
  as_aux_lemma =>
  have hvals : ∀ p ∈ placesL.map PV.int, ∃ k : Int, p = .int k ∧ 0 ≤ k ∧ k < 2 ^ 63 ∧ k.toNat < 20 := fun p hp => by
    obtain ⟨k, hk, rfl⟩ := List.mem_map.mp hp
    have := placesL_lt k hk
    exact ⟨k, rfl, this.1, by lia, by lia⟩
  have hcell : ∀ (xs : List Int), xs.length = 20 → ∀ p ∈ placesL.map PV.int, ∃ k : Int, p = .int k ∧ 0 ≤ k ∧ k < 2 ^ 63 ∧ (xs.map PV.int)[k.toNat]? = some (kvAt xs p) := fun xs hx p hp => by
    obtain ⟨k, rfl, a, b, c⟩ := hvals p hp
    refine ⟨k, rfl, a, b, ?_⟩
    rw [List.getElem?_map, List.getElem?_eq_getElem (by lia)]
    show some _ = some (PV.int _)
    rw [List.getD_eq_getElem?_getD, List.getElem?_eq_getElem (by lia)]
    rfl
  have hkv : ∀ (xs : List Int), ∀ p ∈ placesL.map PV.int, ∃ i, kvAt xs p = .int i := fun xs p hp => by
    obtain ⟨k, rfl, a, b, c⟩ := hvals p hp
    exact ⟨_, rfl⟩
  replace Z₇ : St (lawEnv P L fa) h₀ [("script", q1), ("numbers", q2), ("lack", q3), ("values", q4), ("row", q5), ("counts", q6), ("pairs", some (.ref pr)), ("pair", q7), ("sent", q8), ("more", q9), ("back", q10), ("places", some (.ref pl)), ("rising", none), ("falling", none), ("count", none)] ((232, tabA []) :: (pl, .list (placesL.map PV.int)) :: (cr, .list (costs.map PV.int)) :: (lr, .list ((costs.map fun x => c0 + x).map PV.int)) :: (L + 3, celO (some (.ref lr))) :: (L + 2, celO (some (.ref cr))) :: []) h₇ := Z₇.perm (List.perm_append_comm (l₁ := [_, _, _, _, _]) (l₂ := [_]))
  have keyG : ∀ {x cell : Addr} {y : Str} {cl : List (Str × Addr)} {p1 p2 p3 : Pos} {prm : Arguments} {sc : Scope} {xs : List Int} {cs : List (Addr × AO)}, xs.length = 20 → cl.lookup y = some cell → (cell, celO (some (.ref x))) ∈ cs → (x, .list (xs.map PV.int)) ∈ cs →
      (∀ u c' pm ctv, bindArgs (kla_fn ("<lambda>" : Str) ((lawEnv P L fa).qual ++ ("<lambda>" : Str)) prm (.Subscript (.Name y p1) (.Name (Str.ofString "place") p2) p3) sc cl pm (.ref c') ctv) ⟨[u], []⟩ = Pure.pure [(Str.ofString "place", u)]) → sc.isCoroutine = false → sc.isGenerator = false → sc.kind = .function → (sc.names.all fun x => x.2 != .cell) = true → sc.names.lookup (Str.ofString "place") = some .local → sc.names.lookup y = some .free →
      (y == ("__debug__" : Str)) = false → (y == ("__classdict__" : Str)) = false → ∀ h8, Keeps h₀ h8 → ∀ lf c' pm ctv, Own h8 lf (.raw (kla_obj "<lambda>" ((lawEnv P L fa).qual ++ "<lambda>") prm (.Subscript (.Name y p1) (.Name (Str.ofString "place") p2) p3) sc cl pm c' ctv)) → Own h8 c' (codO ((lawEnv P L fa).qual ++ "<lambda>")) → (∀ p ∈ cs, Own h8 p.1 p.2) → KeyOk C (m + 1) h8 (.ref lf) (placesL.map PV.int) (kvAt xs) := by
    intro x cell y cl p1 p2 p3 prm sc xs cs hx hcl mc mx hb1 h1 h2 h3 h4 h5 h6 h7 h8 h9 kp lf c' pm ctv of oc own
    exact key_item (G.keeps kp) of oc (own _ mc) (own _ mx) (fun u => hb1 u c' pm ctv) h1 h2 h3 h4 h5 h6 hcl (by decide) h7 h8 (hcell xs hx)
  have ltG : ∀ {h8 h' : Heap}, Keeps h8 h' → ∀ p ∈ placesL.map PV.int, ∀ q ∈ placesL.map PV.int, Ltk C A.in1.in1 h' (kvAt costs p) (kvAt costs q) (ltI (kvAt costs p) (kvAt costs q)) := fun {h8 h'} _ p hp q hq =>
    (keyTy_int (C := C) (n := 0) (h₀ := h')).one _ _ ((hR.less (by exact Nat.le_add_left _ _)).in1.in1) (fun _ _ e => e) _ _ (hkv costs p hp) (hkv costs q hq)
  have tyG : ∀ {h8 h' : Heap}, Keeps h8 h' → ∀ p ∈ placesL.map PV.int, ∀ u, pv u = kvAt costs p → Looks C.M h' (typeOf u) (.type "int") := fun {h8 h'} _ p hp u hu => (keyTy_int (C := C) (n := 0) (h₀ := h')).ty _ (fun _ _ e => e) _ _ (hkv costs p hp) hu
  have hlen : (costs.map fun x => c0 + x).length = 20 := by rw [List.length_map]; exact hc
  refine x_sortKey (m := m + 1) (X := []) (clos := [("costs", L + 2)]) (PL := placesL.map PV.int) (kv := kvAt costs) (lt := ltI) (Ty := .type "int") (l' := fun r1 => [("script", q1), ("numbers", q2), ("lack", q3), ("values", q4), ("row", q5), ("counts", q6), ("pairs", some (.ref pr)), ("pair", q7), ("sent", q8), ("more", q9), ("back", q10), ("places", some (.ref pl)), ("rising", some (.ref r1)), ("falling", none), ("count", none)]) (hR.less (by lia)) Z₇ (fun _ m => nomatch m) (fun _ m => nomatch m) X rfl rfl rfl (by kernel_rfl) (by repeat' with_reducible constructor) rfl (CAt.mem (by repeat' with_reducible constructor)) (by decide) (by decide) (fun h' k => (gl_boot (G.keeps k) (by kernel_rfl) boot_sorted (by decide +kernel) (by kernel_rfl) (by kernel_rfl) (by kernel_rfl) (by kernel_rfl)))
    (keyG (x := cr) (cell := L + 2) hc (by kernel_rfl) (CAt.mem (by repeat' with_reducible constructor)) (CAt.mem (by repeat' with_reducible constructor)) (fun u c' pm ctv => (by kernel_rfl)) rfl rfl rfl (by decide) (by kernel_rfl) (by kernel_rfl) (by decide) (by decide)) (fun _ _ _ k => ltG k) (fun _ _ _ k => tyG k) rfl rfl (fun r1 => (by repeat' with_reducible constructor)) fun r1 h₈ es1 ds1 T₁ Z₈ => ?_
  replace Z₈ : St (lawEnv P L fa) h₀ [("script", q1), ("numbers", q2), ("lack", q3), ("values", q4), ("row", q5), ("counts", q6), ("pairs", some (.ref pr)), ("pair", q7), ("sent", q8), ("more", q9), ("back", q10), ("places", some (.ref pl)), ("rising", some (.ref r1)), ("falling", none), ("count", none)] ((232, tabA es1) :: (r1, .list (sortOut false ltI (kvAt costs) (placesL.map PV.int))) :: (pl, .list (placesL.map PV.int)) :: (cr, .list (costs.map PV.int)) :: (lr, .list ((costs.map fun x => c0 + x).map PV.int)) :: (L + 3, celO (some (.ref lr))) :: (L + 2, celO (some (.ref cr))) :: (ds1 ++ [])) h₈ := Z₈.perm (perm_in1 (G := [_, _, _, _, _]))
  generalize ds1 ++ [] = X1 at T₁ Z₈
  clear Z₇
  revert X1
  refine blk ?_
  intro X1 T₁ Z₈
  refine x_sortKeyRev (m := m + 1) (X := X1) (clos := [("costs", L + 2)]) (PL := placesL.map PV.int) (kv := kvAt costs) (lt := ltI) (Ty := .type "int") (l' := fun r2 => [("script", q1), ("numbers", q2), ("lack", q3), ("values", q4), ("row", q5), ("counts", q6), ("pairs", some (.ref pr)), ("pair", q7), ("sent", q8), ("more", q9), ("back", q10), ("places", some (.ref pl)), ("rising", some (.ref r1)), ("falling", some (.ref r2)), ("count", none)]) (hR.less (by lia)) Z₈ T₁ (fun _ m => List.mem_append_right [_, _, _, _, _, _] m) X rfl rfl rfl (by kernel_rfl) (by repeat' with_reducible constructor) rfl (CAt.mem (by repeat' with_reducible constructor)) (by decide) (by decide) (fun h' k => (gl_boot (G.keeps k) (by kernel_rfl) boot_sorted (by decide +kernel) (by kernel_rfl) (by kernel_rfl) (by kernel_rfl) (by kernel_rfl)))
    (keyG (x := cr) (cell := L + 2) hc (by kernel_rfl) (CAt.mem (by repeat' with_reducible constructor)) (CAt.mem (by repeat' with_reducible constructor)) (fun u c' pm ctv => (by kernel_rfl)) rfl rfl rfl (by decide) (by kernel_rfl) (by kernel_rfl) (by decide) (by decide)) (fun _ _ _ k => ltG k) (fun _ _ _ k => tyG k) rfl rfl (fun r2 => (by repeat' with_reducible constructor)) fun r2 h₉ es2 ds2 T₂ Z₉ => ?_
  obtain ⟨xs, hxs⟩ := sortOut_ints (b := false) (lt := ltI) (kv := kvAt costs) (es := placesL) (key_wo (keyTy_int (C := C) (n := 0) (h₀ := h)) (Kf := fun i => kvAt costs (.int (elAt placesL i))) (fun i => ⟨_, rfl⟩) false) (by decide) (fun _ _ => rfl)
  obtain ⟨ys, hys⟩ := sortOut_ints (b := true) (lt := ltI) (kv := kvAt costs) (es := placesL) (key_wo (keyTy_int (C := C) (n := 0) (h₀ := h)) (Kf := fun i => kvAt costs (.int (elAt placesL i))) (fun i => ⟨_, rfl⟩) true) (by decide) (fun _ _ => rfl)
  have hsh : ∀ b, sortOut b ltI (kvAt (costs.map fun x => c0 + x)) (placesL.map PV.int) = sortOut b ltI (kvAt costs) (placesL.map PV.int) := fun b => sortOut_shift (fun k k' hk hk' => by
    obtain ⟨_, e1, _, _, a⟩ := hvals _ hk
    obtain ⟨_, e2, _, _, a'⟩ := hvals _ hk'
    cases e1; cases e2
    simp only [List.getD_eq_getElem?_getD, List.getElem?_map, List.getElem?_eq_getElem (show k.toNat < costs.length by lia), List.getElem?_eq_getElem (show k'.toNat < costs.length by lia), Option.map_some, Option.getD_some]
    congr 1
    exact propext (by lia)) (fun p hp => by obtain ⟨k, e, _⟩ := hvals p hp; exact ⟨k, e⟩)
  have hxs' := (hsh false).trans hxs
  have hys' := (hsh true).trans hys
  have lxs : xs.length = 20 := by
    have := congrArg List.length hxs
    rw [sortOut_len, List.length_map, List.length_map] at this
    exact this.symm
  have lys : ys.length = 20 := by
    have := congrArg List.length hys
    rw [sortOut_len, List.length_map, List.length_map] at this
    exact this.symm
  rw [hxs, hys] at Z₉
  have Z₁₀ : St (lawEnv P L fa) h₀ [("script", q1), ("numbers", q2), ("lack", q3), ("values", q4), ("row", q5), ("counts", q6), ("pairs", some (.ref pr)), ("pair", q7), ("sent", q8), ("more", q9), ("back", q10), ("places", some (.ref pl)), ("rising", some (.ref r1)), ("falling", some (.ref r2)), ("count", none)] ((232, tabA es2) :: (r2, .list (ys.map PV.int)) :: (r1, .list (xs.map PV.int)) :: (pl, .list (placesL.map PV.int)) :: (lr, .list ((costs.map fun x => c0 + x).map PV.int)) :: (L + 3, celO (some (.ref lr))) :: (ds2 ++ X1)) h₉ := (Z₉.perm (perm_in1 (G := [_, _, _, _, _, _]))).sub (((((((((List.Sublist.refl _).cons _).cons_cons _).cons_cons _).cons _).cons_cons _).cons_cons _).cons_cons _).cons_cons _)
  clear Z₈ Z₉ hxs hys hsh
  as_aux_lemma =>
  refine x_forX (fun h' => ∃ es cs', St (lawEnv P L fa) h₀ [("script", q1), ("numbers", q2), ("lack", q3), ("values", q4), ("row", q5), ("counts", q6), ("pairs", some (.ref pr)), ("pair", q7), ("sent", q8), ("more", q9), ("back", q10), ("places", some (.ref pl)), ("rising", some (.ref r1)), ("falling", some (.ref r2)), ("count", none)] ((232, tabA es) :: cs') h') ?_ ?_
  · intro S kS
    refine w_tupP Z₁₀ (ps_cons (by tm_at "pe") (ps_cons (by tm_at "pe") ps_nil)) fun tp h₁₆ Z₁₆ => ?_
    refine w_iter_tup Z₁₆ (Z₁₆.get .here) fun it h₁₇ Z₁₇ => ?_
    refine w_forN 2 (fun i h' => ∃ es X, TabOk ((lawEnv P L fa).qual ++ "<lambda>") es X ∧ St (lawEnv P L fa) h₀ [("script", q1), ("numbers", q2), ("lack", q3), ("values", q4), ("row", q5), ("counts", q6), ("pairs", some (.ref pr)), ("pair", q7), ("sent", q8), ("more", q9), ("back", q10), ("places", some (.ref pl)), ("rising", some (.ref r1)), ("falling", some (.ref r2)), ("count", none)] ((232, tabA es) :: (it, tit tp i) :: (tp, .tup [.int 1, .int 6]) :: (r2, .list (ys.map PV.int)) :: (r1, .list (xs.map PV.int)) :: (pl, .list (placesL.map PV.int)) :: (lr, .list ((costs.map fun x => c0 + x).map PV.int)) :: (L + 3, celO (some (.ref lr))) :: X) h') ?_ ?_ ⟨es2, _, T₂, Z₁₇.perm ((List.perm_append_comm (l₁ := [_, _]) (l₂ := [_])).append_right _)⟩
    · rintro i h₁₈ hi ⟨es3, X3, T₃, Z⟩ R kR
      obtain ⟨cn, c1, c2, hcn⟩ : ∃ cn : Nat, 1 ≤ cn ∧ cn < placesL.length ∧ [PV.int 1, PV.int 6][i]? = some (.int (cn : Int)) := by
        have : i = 0 ∨ i = 1 := by lia
        rcases this with rfl | rfl
        · exact ⟨1, by decide, by decide, rfl⟩
        · exact ⟨6, by decide, by decide, rfl⟩
      refine next_tup Z (by repeat' with_reducible constructor) (by repeat' with_reducible constructor) (Z.get (by repeat' with_reducible constructor)) (p := .int cn) hcn fun v h₁₉ hv Z₁₉ => ⟨v, rfl, w_store Z₁₉ hv (by repeat' with_reducible constructor) fun h₂₀ Z₂₀ => ?_⟩
      clear Z Z₁₉
      as_aux_lemma =>
      refine x_topCheck (m := m + 1) (X := X3) (clos := [("lengths", L + 3)]) (cnt := cn) (PL := placesL.map PV.int) (kv := kvAt (costs.map fun x => c0 + x)) (OUT := sortOut false ltI (kvAt (costs.map fun x => c0 + x)) (placesL.map PV.int)) hR.units Z₂₀ T₃ (fun _ m => List.mem_append_right [_, _, _, _, _, _, _] m) X rfl rfl rfl (by kernel_rfl) (by repeat' with_reducible constructor) (by repeat' with_reducible constructor) (by repeat' with_reducible constructor) (by decide) (by decide) (by decide) (CAt.mem (by repeat' with_reducible constructor)) (CAt.mem (by repeat' with_reducible constructor)) hxs' (by lia) (fun h' k => (gl_top (v := .ref 181) (G.keeps k) (by kernel_rfl) (by kernel_rfl) (by kernel_rfl) (by kernel_rfl))) (fun h' k => (G.keeps k).fn (f := 181) (by kernel_rfl))
        (keyG (x := lr) (cell := L + 3) hlen (by kernel_rfl) (CAt.mem (by repeat' with_reducible constructor)) (CAt.mem (by repeat' with_reducible constructor)) (fun u c' pm ctv => (by kernel_rfl)) rfl rfl rfl (by decide) (by kernel_rfl) (by kernel_rfl) (by decide) (by decide))
        (fun kp hu o hf hk k => nsmallest_spec (m := m + 1) (ks := fun p => ∃ i, p = .int i) (e := eqI) (lt := ltI) (T := .type "int") (hR.less (by lia)) (G.keeps kp) hu o hf hk keyTy_int (fun x hx => hkv _ _ (List.mem_map.mpr ⟨x, hx, rfl⟩)) c1 c2 (by decide) k) fun h₂₁ es4 ds4 T₄ Z₂₁ => ?_
      replace Z₂₁ : St (lawEnv P L fa) h₀ [("script", q1), ("numbers", q2), ("lack", q3), ("values", q4), ("row", q5), ("counts", q6), ("pairs", some (.ref pr)), ("pair", q7), ("sent", q8), ("more", q9), ("back", q10), ("places", some (.ref pl)), ("rising", some (.ref r1)), ("falling", some (.ref r2)), ("count", some (.int cn))] ((232, tabA es4) :: (it, tit tp (i + 1)) :: (tp, .tup [.int 1, .int 6]) :: (r2, .list (ys.map PV.int)) :: (r1, .list (xs.map PV.int)) :: (pl, .list (placesL.map PV.int)) :: (lr, .list ((costs.map fun x => c0 + x).map PV.int)) :: (L + 3, celO (some (.ref lr))) :: (ds4 ++ X3)) h₂₁ := Z₂₁.perm (perm_in (G := [_, _, _, _, _, _, _]))
      clear Z₂₀ T₃
      as_aux_lemma =>
      refine x_topCheck (m := m + 1) (X := ds4 ++ X3) (clos := [("lengths", L + 3)]) (cnt := cn) (PL := placesL.map PV.int) (kv := kvAt (costs.map fun x => c0 + x)) (OUT := sortOut true ltI (kvAt (costs.map fun x => c0 + x)) (placesL.map PV.int)) hR.units Z₂₁ T₄ (fun _ m => List.mem_append_right [_, _, _, _, _, _, _] m) X rfl rfl rfl (by kernel_rfl) (by repeat' with_reducible constructor) (by repeat' with_reducible constructor) (by repeat' with_reducible constructor) (by decide) (by decide) (by decide) (CAt.mem (by repeat' with_reducible constructor)) (CAt.mem (by repeat' with_reducible constructor)) hys' (by lia) (fun h' k => (gl_top (v := .ref 187) (G.keeps k) (by kernel_rfl) (by kernel_rfl) (by kernel_rfl) (by kernel_rfl))) (fun h' k => (G.keeps k).fn (f := 187) (by kernel_rfl))
        (keyG (x := lr) (cell := L + 3) hlen (by kernel_rfl) (CAt.mem (by repeat' with_reducible constructor)) (CAt.mem (by repeat' with_reducible constructor)) (fun u c' pm ctv => (by kernel_rfl)) rfl rfl rfl (by decide) (by kernel_rfl) (by kernel_rfl) (by decide) (by decide))
        (fun kp hu o hf hk k => nlargest_spec (m := m + 1) (ks := fun p => ∃ i, p = .int i) (e := eqI) (lt := ltI) (T := .type "int") (hR.less (by lia)) (G.keeps kp) hu o hf hk keyTy_int (fun x hx => hkv _ _ (List.mem_map.mpr ⟨x, hx, rfl⟩)) c1 c2 (by decide) k) fun h₂₂ es5 ds5 T₅ Z₂₂ => ?_
      exact x_nil (kR <| lp_next ⟨es5, _, T₅, St.wk (Z₂₂.perm (perm_in (G := [_, _, _, _, _, _, _]))) (by repeat' first | with_reducible constructor | refine' Wk.keep ?_)⟩)
    · rintro h₁₈ ⟨es3, X3, T₃, Z⟩
      refine next_tup_end hR.h (Z.perm (.swap _ _ _)) (Z.get (by repeat' with_reducible constructor)) (by decide) fun h₁₉ Z₁₉ => ⟨rfl, ?_⟩
      exact kS <| sx_next ⟨_, _, Z₁₉⟩
  · rintro h₁₆ ⟨es3, cs', Z⟩
    refine x_ret (p := .bool true) (by tm_at "pe") fun v hv => ?_
    obtain rfl := pv_bool hv
    obtain ⟨o, eo, ed⟩ := Z.get .here
    have ed : o = tabObj (tabL es3).toArray := ed
    exact ⟨rfl, Z.keep, _, by rw [eo, ed]⟩

section
variable {C : Cx} {A : Around} {h h₀ h' : Heap} {env : Env}
theorem w_iter_bit {it : Addr} {b : Array UInt8} {i : Nat} {Q : Value → Heap → Prop} (o : Own h it (bitO b i)) (k : Q (.ref it) h) : Wp C A (pyIter (.ref it)) Q h := fun t => by
  obtain ⟨ob, eo, u, e1, e2⟩ := o
  have hT : (C.st h t).TypeIs (.ref it) "bytes_iterator" := ⟨ob, eo, e1⟩
  refine wpAny_pyIter_slot hT KBw.slot_self (wpAny_call_entry KBw.slot_self hT KBw.entry_self ?_ (KBw.args_self _))
  show wpAny _ _ (ret (.ref it)) _ _ _
  exact wpAny_pure ⟨_, rfl, "bytes_iterator", _, hT, KBw.slot_next.lookup, ⟨_, _, rfl, k⟩⟩
theorem Pe.cast {e : Expr} {p q : PV} (x : Pe C A env h e p) (e' : p = q) : Pe C A env h e q := e' ▸ x
theorem e_lenStr {x : Str} {p0 pos : Pos} {e : Expr} {s : Str} (g : Gl C A env h x (.builtin "len")) (y : Pe C A env h e (.str s)) (hz : s.cps.size < 2 ^ 62)
    (he : starEach [e] env = (false, eval e env) :: starEach [] env := by rfl) : Pe C A env h (.Call (.Name x p0) [e] [] pos) (.int s.cps.size) := fun Q k => by
  refine w_call_bi g (w_args_cons (y _ fun v hv => w_args_nil ?_) he) he
  obtain ⟨t, rfl⟩ := pv_str hv
  intro tk
  exact len_str (by show ¬ ((s.cps.size : Int) ≥ 2 ^ 63); lia) ⟨_, _, rfl, k _ rfl⟩
end
theorem catStr_chr (l : List Int) : catStr (l.map fun n => (⟨#[n.toNat]⟩ : Str)) = l.map Int.toNat := by
  unfold catStr
  induction l with
  | nil => rfl
  | cons n l ih => rw [List.map_cons, List.flatMap_cons, ih]; rfl
theorem bInts_len (b : Array UInt8) : (KBw.bInts b).length = b.size := by simp [KBw.bInts]
theorem bInts_bd {b : Array UInt8} {n : Int} (h : n ∈ KBw.bInts b) : 0 ≤ n ∧ n < 256 := by
  unfold KBw.bInts at h
  obtain ⟨c, _, rfl⟩ := List.mem_map.mp h
  have := c.toNat_lt
  lia
theorem bInts_two {al : Array UInt8} (h : al.size = 2) : KBw.bInts al = [(KBw.bInts al).getD 0 0, (KBw.bInts al).getD 1 0] := by
  have hl := bInts_len al
  rw [h] at hl
  rcases hb : KBw.bInts al with _ | ⟨x, _ | ⟨y, _ | ⟨z, r⟩⟩⟩ <;> rw [hb] at hl <;> simp at hl
  rfl
noncomputable def lwText (ks : List Int) (al : Array UInt8) : List Nat := (KBw.bInts (encB ks al)).map Int.toNat
noncomputable def lwSent (ks : List Int) (al : Array UInt8) : List Nat := quoted (lwText ks al)
noncomputable def lwCost (m0 m1 b0 b1 h0 h1 : Int) (al : Array UInt8) : Int × Bool := lkCost m0 m1 b0 b1 h0 h1 ((KBw.bInts al).getD 0 0) ((KBw.bInts al).getD 1 0)
structure PairOk (ks : List Int) (row : Array UInt8) (c0 m0 m1 b0 b1 h0 h1 : Int) (al : Array UInt8) : Prop where
  sz : al.size = 2
  hc1 : ((KBw.bInts al).getD 0 0 = 13 ∧ (KBw.bInts al).getD 1 0 = 10) ↔ al = #[13, 10]
  hc2 : ((KBw.bInts al).getD 0 0 = 10 ∧ (KBw.bInts al).getD 1 0 = 13) ↔ al = #[10, 13]
  tsz : (lwText ks al).length ≤ 10000
  ssz : (lwSent ks al).length ≤ 100000
  asc : (lwSent ks al).all (· < 128) = true
  len : ((lwSent ks al).length : Int) = c0 + (lwCost m0 m1 b0 b1 h0 h1 al).1
  back : (lwCost m0 m1 b0 b1 h0 h1 al).2 = true → ∃ ks', KBw.bInts (((lwSent ks al).toArray.map (·.toUInt8)).map fun c => (transT al.toList [43, 47]).getD c.toNat c) = ks' ∧ ((a2bRun ks').quad = 0 ∨ 2 ≤ (a2bRun ks').quad ∧ 4 ≤ (a2bRun ks').quad + (a2bRun ks').pads) ∧ byteArr (a2bRun ks').out = row

set_option maxHeartbeats 4000000
theorem law_t3 {C : Cx} {A : Around} {h h₀ : Heap} {P : Params} {m : Nat} {L fa pr cr lr vr ct a1 a2 a3 : Addr} {lack : Nat} {vals ks : List Int} {row : Array UInt8} {m0 m1 b0 b1 h0 h1 : Int} {prs : List (Array UInt8)} {cs : List (Addr × AO)} {q1 q2 : Option PV} (hR : Rm (m + 8) A) (G : Gd (hd.heap_39 P) h₀) (X : Lm h₀ 234 232)
    (hp : prs.length = 20) (hk : KBw.bInts row = ks) (hkz : ks.length ≤ 1000) (hvz : vals.length ≤ 1000) (ok : ∀ al ∈ prs, PairOk ks row (vals.length + lack) m0 m1 b0 b1 h0 h1 al)
    (Z : St (lawEnv P L fa) h₀ [("script", q1), ("numbers", q2), ("lack", some (.int lack)), ("values", some (.ref vr)), ("row", some (.bytes row)), ("counts", some (.ref ct)), ("pairs", some (.ref pr)), ("pair", none), ("sent", none), ("more", none), ("back", none), ("places", none), ("rising", none), ("falling", none), ("count", none)] ((pr, .list (prs.map PV.bytes)) :: (cr, .list []) :: (lr, .list []) :: (L + 3, celO (some (.ref lr))) :: (L + 2, celO (some (.ref cr))) :: (232, .raw (tabObj #[])) :: (vr, .list (vals.map PV.int)) :: (ct, .tup [.ref a1, .ref a2, .ref a3]) :: (a1, .list [.int m0, .int m1]) :: (a2, .list [.int b0, .int b1]) :: (a3, .list [.int h0, .int h1]) :: []) h) :
    Wp C A (execs ((lawBody P).drop 9) (lawEnv P L fa)) (lawPost h₀) h := by
  have hb := fn_body (K := hd.heap_39 P) (f := 235) (by k_is) (by exact rfl)
  unfold lawBody
  rw [hb]
  simp only [stmtsOf_s, List.drop_succ_cons, List.drop_zero]
  refine x_forX (fun h' => St (lawEnv P L fa) h₀ [("script", q1), ("numbers", q2), ("lack", some (.int lack)), ("values", some (.ref vr)), ("row", some (.bytes row)), ("counts", some (.ref ct)), ("pairs", some (.ref pr)), ("pair", none), ("sent", none), ("more", none), ("back", none), ("places", none), ("rising", none), ("falling", none), ("count", none)] ((pr, .list (prs.map PV.bytes)) :: (cr, .list ((prs.map fun al => (lwCost m0 m1 b0 b1 h0 h1 al).1).map PV.int)) :: (lr, .list (((prs.map fun al => (lwCost m0 m1 b0 b1 h0 h1 al).1).map fun x => ((vals.length : Int) + lack) + x).map PV.int)) :: (L + 3, celO (some (.ref lr))) :: (L + 2, celO (some (.ref cr))) :: (232, .raw (tabObj #[])) :: []) h') ?_ ?_
  · intro S kS
    refine Pe.useR (by tm_at "pe") ?_
    refine w_iter_list Z (Z.get .here) fun it h₁ Z₁ => ?_
    refine w_forN 20 (fun i h' => St (lawEnv P L fa) h₀ [("script", q1), ("numbers", q2), ("lack", some (.int lack)), ("values", some (.ref vr)), ("row", some (.bytes row)), ("counts", some (.ref ct)), ("pairs", some (.ref pr)), ("pair", none), ("sent", none), ("more", none), ("back", none), ("places", none), ("rising", none), ("falling", none), ("count", none)] ((it, lit pr i) :: (pr, .list (prs.map PV.bytes)) :: (cr, .list (((prs.take i).map fun al => (lwCost m0 m1 b0 b1 h0 h1 al).1).map PV.int)) :: (lr, .list ((((prs.take i).map fun al => (lwCost m0 m1 b0 b1 h0 h1 al).1).map fun x => ((vals.length : Int) + lack) + x).map PV.int)) :: (L + 3, celO (some (.ref lr))) :: (L + 2, celO (some (.ref cr))) :: (232, .raw (tabObj #[])) :: (vr, .list (vals.map PV.int)) :: (ct, .tup [.ref a1, .ref a2, .ref a3]) :: (a1, .list [.int m0, .int m1]) :: (a2, .list [.int b0, .int b1]) :: (a3, .list [.int h0, .int h1]) :: []) h') ?_ ?_ (Z₁.wk (by repeat' first | with_reducible constructor | refine' Wk.keep ?_))
    · rintro i h₂ hi Z R kR
      obtain ⟨al, hal⟩ : ∃ al, prs[i]? = some al := ⟨prs[i], List.getElem?_eq_getElem (by lia)⟩
      have O := ok al (List.mem_of_getElem? hal)
      refine next_list Z (by repeat' with_reducible constructor) (by repeat' with_reducible constructor) (Z.get (by repeat' with_reducible constructor)) (p := .bytes al) (by rw [List.getElem?_map, hal]; rfl) fun v h₃ hv Z₃ => ⟨v, rfl, w_store Z₃ hv (by repeat' with_reducible constructor) fun h₄ Z₄ => ?_⟩
      clear Z Z₃
      as_aux_lemma =>
      have G4 := G.keeps Z₄.keep
      refine x_assign' ?_
      refine w_call_fn (gl_top (v := .ref 204) G4 (by kernel_rfl) (by kernel_rfl) (by kernel_rfl) (by kernel_rfl)) (G4.fn (f := 204) (by kernel_rfl)) (w_args_cons ?_)
      refine w_mcall (Pe.use e_str fun ov hov => ?_)
      obtain ⟨t0, rfl⟩ := pv_str hov
      refine ⟨_, _, mt_str F.slot_str_join F.type_str_join, ?_⟩
      refine w_callWith ?_
      refine w_args_cons ?_
      refine w_listComp (h₀ := h₀) (l := [("script", q1), ("numbers", q2), ("lack", some (.int lack)), ("values", some (.ref vr)), ("row", some (.bytes row)), ("counts", some (.ref ct)), ("pairs", some (.ref pr)), ("pair", some (.bytes al)), ("sent", none), ("more", none), ("back", none), ("places", none), ("rising", none), ("falling", none), ("count", none)]) (cl := []) (ks := ["octet"]) (by kernel_rfl) rfl (by decide +kernel) (by decide +kernel) (fun _ => LocK.of (by kernel_rfl) (by kernel_rfl) (by decide +kernel)) ?_
      refine w_call (gl_top (v := .ref 111) G4 (by kernel_rfl) (by kernel_rfl) (by kernel_rfl) (by kernel_rfl)) (G4.fn (f := 111) (by kernel_rfl)) (ps_cons (p := .bytes row) (by tm_at "pe") (ps_cons (p := .bytes al) (by tm_at "pe") ps_nil)) fun us hus => ?_
      refine b64encode_spec (n := m) (hR.less (by lia)) G4 hus O.sz hk (by exact Nat.le_trans (by assumption) (by decide)) fun w h₅ kp hw => ?_
      have Z₅ := Z₄.keeps kp
      refine w_iter_bytes Z₅ hw fun it2 h₆ Z₆ => ⟨_, Z₆, fun acc L' oL h₇ Z₇ => ?_⟩
      have hbl := bInts_len (encB ks al)
      have htl : (KBw.bInts (encB ks al)).length ≤ 10000 := by have := O.tsz; unfold lwText at this; rw [List.length_map] at this; exact this
      have Zq : St _ h₀ [("octet", none)] ((it2, bitO (encB ks al) 0) :: ((lawEnv P L fa).locals, .raw oL) :: (acc, .list (((KBw.bInts (encB ks al)).take 0).map fun n => PV.str ⟨#[n.toNat]⟩)) :: (it, lit pr (i + 1)) :: (pr, .list (prs.map PV.bytes)) :: (cr, .list (((prs.take i).map fun al => (lwCost m0 m1 b0 b1 h0 h1 al).1).map PV.int)) :: (lr, .list ((((prs.take i).map fun al => (lwCost m0 m1 b0 b1 h0 h1 al).1).map fun x => ((vals.length : Int) + lack) + x).map PV.int)) :: (L + 3, celO (some (.ref lr))) :: (L + 2, celO (some (.ref cr))) :: (232, .raw (tabObj #[])) :: (vr, .list (vals.map PV.int)) :: (ct, .tup [.ref a1, .ref a2, .ref a3]) :: (a1, .list [.int m0, .int m1]) :: (a2, .list [.int b0, .int b1]) :: (a3, .list [.int h0, .int h1]) :: []) h₇ := Z₇.perm ((List.perm_append_comm (l₁ := [_, _]) (l₂ := [_])).append_right _)
      clear Z₇ Z₆ Z₅ Z₄ kp hw
      as_aux_lemma =>
      refine cp_compStart (cp_compN (encB ks al).size (fun j h' => St _ h₀ [("octet", none)] ((it2, bitO (encB ks al) j) :: ((lawEnv P L fa).locals, .raw oL) :: (acc, .list (((KBw.bInts (encB ks al)).take j).map fun n => PV.str ⟨#[n.toNat]⟩)) :: (it, lit pr (i + 1)) :: (pr, .list (prs.map PV.bytes)) :: (cr, .list (((prs.take i).map fun al => (lwCost m0 m1 b0 b1 h0 h1 al).1).map PV.int)) :: (lr, .list ((((prs.take i).map fun al => (lwCost m0 m1 b0 b1 h0 h1 al).1).map fun x => ((vals.length : Int) + lack) + x).map PV.int)) :: (L + 3, celO (some (.ref lr))) :: (L + 2, celO (some (.ref cr))) :: (232, .raw (tabObj #[])) :: (vr, .list (vals.map PV.int)) :: (ct, .tup [.ref a1, .ref a2, .ref a3]) :: (a1, .list [.int m0, .int m1]) :: (a2, .list [.int b0, .int b1]) :: (a3, .list [.int h0, .int h1]) :: []) h') ?_ ?_ 0 h₇ (Nat.zero_le _) Zq) (w_iter_bit (Zq.get .here) ⟨rfl, rfl⟩)
      · rintro j h₈ hj Z J kJ
        obtain ⟨n, hn⟩ : ∃ n, (KBw.bInts (encB ks al))[j]? = some n := ⟨(KBw.bInts (encB ks al))[j]'(by lia), List.getElem?_eq_getElem _⟩
        have hnb := bInts_bd (List.mem_of_getElem? hn)
        refine next_bytes Z (by repeat' with_reducible constructor) (by repeat' with_reducible constructor) hn fun v h₉ hv Z₉ => ⟨v, rfl, Wp.pure (w_assignName (w_store Z₉ hv (by repeat' with_reducible constructor) fun h₁₀ Z₁₀ => w_tests0 ?_))⟩
        first | refine ite_t ?_ | refine exs_t ?_ | refine ev_t ?_ | rw [if_pos rfl]
        have G10 := G.keeps Z₁₀.keep
        refine w_call_bi (gl_boot G10 (by kernel_rfl) boot_chr (by decide +kernel) (by kernel_rfl) (by kernel_rfl) (by kernel_rfl) (by kernel_rfl)) (w_args_cons (Pe.use (p := .int n) (by tm_at "pe") fun v2 hv2 => w_args_nil (w_chr hv2 hnb.1 (by lia) fun w hw => ?_)))
        refine w_append Z₁₀ hw (by repeat' with_reducible constructor) (by repeat' with_reducible constructor) (by rw [List.length_map, List.length_take]; first | exact szm (by exact Nat.le_trans (by assumption) (by decide)) | exact sz (by lia) | (simp [sizeLine]; lia)) fun h₁₁ Z₁₁ => kJ ?_
        rw [List.take_add_one, hn, List.map_append]
        exact Z₁₁.wk (by repeat' first | with_reducible constructor | refine' Wk.keep ?_)
      · rintro h₈ Z
        rw [List.take_of_length_le (by lia)] at Z
        refine next_bytes_end hR.h Z (Nat.le_refl _) fun h₉ Z₉ => ⟨rfl, _, _, _, Z₉, fun h₁₀ Z₁₀ => w_args_nil ?_⟩
        clear Z Z₉ Zq
        as_aux_lemma =>
        refine w_join (ts := (KBw.bInts (encB ks al)).map fun n => (⟨#[n.toNat]⟩ : Str)) (by rw [List.map_map]; exact Z₁₀.get .here) (by rw [catStr_chr, List.length_map]; first | exact szm (by lia) | exact sz (by exact Nat.le_trans (by assumption) (by decide)) | (simp [sizeLine]; lia)) fun v hv => ?_
        rw [catStr_chr] at hv
        replace Z₁₀ := Z₁₀.drop
        have G10 := G.keeps Z₁₀.keep
        refine w_args_nil ⟨G10.fn (f := 204) (by kernel_rfl), ?_⟩
        refine quotedata_spec (n := m) (hR.less (by lia)) G10 (by rw [List.map_cons, hv]; rfl) (by simp; exact Nat.le_trans (by assumption) (by decide)) fun v h₁₁ kp hv => ?_
        refine w_store (p := .str ⟨(lwSent ks al).toArray⟩) (Z₁₀.keeps kp) hv (by repeat' with_reducible constructor) fun h₁₂ Z₁₂ => ?_
        clear Z₁₀ G10 kp
        as_aux_lemma =>
        have G12 := G.keeps Z₁₂.keep
        refine x_assignTup ?_
        refine w_call (gl_top (v := .ref 230) G12 (by kernel_rfl) (by kernel_rfl) (by kernel_rfl) (by kernel_rfl)) (G12.fn (f := 230) (by kernel_rfl)) (ps_cons (p := .ref ct) (by tm_at "pe") (ps_cons (p := .bytes al) (by tm_at "pe") ps_nil)) fun us hus => ?_
        refine law_cost_spec (n := m) (hR.less (by lia)) G12 hus (bInts_two O.sz) O.hc1 O.hc2 (Z₁₂.get (by repeat' with_reducible constructor)) (Z₁₂.get (by repeat' with_reducible constructor)) (Z₁₂.get (by repeat' with_reducible constructor)) (Z₁₂.get (by repeat' with_reducible constructor)) fun r h₁₃ N => ?_
        have Z₁₃ := Z₁₂.adopt N
        refine w_unpack2 hR.h Z₁₃ (Z₁₃.get .here) (by repeat' with_reducible constructor) (by repeat' with_reducible constructor) fun h₁₄ Z₁₄ => ?_
        replace Z₁₄ : St (lawEnv P L fa) h₀ [("script", q1), ("numbers", q2), ("lack", some (.int lack)), ("values", some (.ref vr)), ("row", some (.bytes row)), ("counts", some (.ref ct)), ("pairs", some (.ref pr)), ("pair", some (.bytes al)), ("sent", some (.str ⟨(lwSent ks al).toArray⟩)), ("more", some (.int (lwCost m0 m1 b0 b1 h0 h1 al).1)), ("back", some (.bool (lwCost m0 m1 b0 b1 h0 h1 al).2)), ("places", none), ("rising", none), ("falling", none), ("count", none)] ((it, lit pr (i + 1)) :: (pr, .list (prs.map PV.bytes)) :: (cr, .list (((prs.take i).map fun al => (lwCost m0 m1 b0 b1 h0 h1 al).1).map PV.int)) :: (lr, .list ((((prs.take i).map fun al => (lwCost m0 m1 b0 b1 h0 h1 al).1).map fun x => ((vals.length : Int) + lack) + x).map PV.int)) :: (L + 3, celO (some (.ref lr))) :: (L + 2, celO (some (.ref cr))) :: (232, .raw (tabObj #[])) :: (vr, .list (vals.map PV.int)) :: (ct, .tup [.ref a1, .ref a2, .ref a3]) :: (a1, .list [.int m0, .int m1]) :: (a2, .list [.int b0, .int b1]) :: (a3, .list [.int h0, .int h1]) :: []) h₁₄ := Z₁₄.drop
        clear Z₁₂ Z₁₃ N G12
        as_aux_lemma =>
        have G14 := G.keeps Z₁₄.keep
        refine x_if (b := false) (t_cmp (e_lenStr (gl_boot G14 (by kernel_rfl) boot_len (by decide +kernel) (by kernel_rfl) (by kernel_rfl) (by kernel_rfl) (by kernel_rfl)) (by tm_at "pe") (by have := O.ssz; simp; exact Nat.lt_of_le_of_lt (by assumption) (by decide))) (e_add (e_add (e_len (gl_boot G14 (by kernel_rfl) boot_len (by decide +kernel) (by kernel_rfl) (by kernel_rfl) (by kernel_rfl) (by kernel_rfl)) (by tm_at "pe") (Z₁₄.get (by repeat' with_reducible constructor)) (by rw [List.length_map]; exact Nat.lt_of_le_of_lt (by assumption) (by decide))) (by tm_at "pe")) (by tm_at "pe")) (by repeat' (show (_ : Prop); first | with_reducible refine' CmI.cm ?_ | with_reducible constructor | rfl)) (by have := O.len; simp [this])) (fun e => absurd e Bool.false_ne_true) (fun _ => x_done ?_)
        refine x_ifW (Wp.mono (P := fun b h' => b = false ∧ St (lawEnv P L fa) h₀ [("script", q1), ("numbers", q2), ("lack", some (.int lack)), ("values", some (.ref vr)), ("row", some (.bytes row)), ("counts", some (.ref ct)), ("pairs", some (.ref pr)), ("pair", some (.bytes al)), ("sent", some (.str ⟨(lwSent ks al).toArray⟩)), ("more", some (.int (lwCost m0 m1 b0 b1 h0 h1 al).1)), ("back", some (.bool (lwCost m0 m1 b0 b1 h0 h1 al).2)), ("places", none), ("rising", none), ("falling", none), ("count", none)] ((it, lit pr (i + 1)) :: (pr, .list (prs.map PV.bytes)) :: (cr, .list (((prs.take i).map fun al => (lwCost m0 m1 b0 b1 h0 h1 al).1).map PV.int)) :: (lr, .list ((((prs.take i).map fun al => (lwCost m0 m1 b0 b1 h0 h1 al).1).map fun x => ((vals.length : Int) + lack) + x).map PV.int)) :: (L + 3, celO (some (.ref lr))) :: (L + 2, celO (some (.ref cr))) :: (232, .raw (tabObj #[])) :: (vr, .list (vals.map PV.int)) :: (ct, .tup [.ref a1, .ref a2, .ref a3]) :: (a1, .list [.int m0, .int m1]) :: (a2, .list [.int b0, .int b1]) :: (a3, .list [.int h0, .int h1]) :: []) h') ?_ fun b h₁₅ q => ?_)
        · refine w_testAnd (w_testPt (t_bool (by tm_at "pe")) ?_)
          cases hbk : (lwCost m0 m1 b0 b1 h0 h1 al).2 with
          | false => rw [if_neg Bool.false_ne_true]; rw [hbk] at Z₁₄; exact ⟨rfl, Z₁₄⟩
          | true =>
            first | refine ite_t ?_ | refine exs_t ?_ | refine ev_t ?_ | rw [if_pos rfl]
            rw [hbk] at Z₁₄
            obtain ⟨ks', e1, e2, e3⟩ := O.back hbk
            refine w_testCmp ?_
            refine w_call (gl_top (v := .ref 119) G14 (by kernel_rfl) (by kernel_rfl) (by kernel_rfl) (by kernel_rfl)) (G14.fn (f := 119) (by kernel_rfl)) (ps_cons (p := .str ⟨(lwSent ks al).toArray⟩) (by tm_at "pe") (ps_cons (p := .bytes al) (by tm_at "pe") ps_nil)) fun us hus => ?_
            refine b64decode_spec (n := m) (hR.less (by lia)) G14 hus O.sz (by simpa using O.asc) (by have := O.ssz; simp; exact Nat.le_trans (by assumption) (by decide)) e1 e2 fun w h₁₅ kp hw => ?_
            have Z₁₅ := Z₁₄.keeps kp
            refine Pe.use (p := .bytes row) (by tm_at "pe") fun v2 hv2 => c_ne_bytes w v2 hw hv2 _ ⟨_, rfl, by rw [e3]; simp, Z₁₅⟩
        · obtain ⟨rfl, Z₁₅⟩ := q
          first | refine ite_f ?_ | refine exs_f ?_ | refine ev_f ?_ | rw [if_neg Bool.false_ne_true]
          refine x_done ?_
          clear Z₁₄ G14
          as_aux_lemma =>
          have G15 := G.keeps Z₁₅.keep
          refine x_append Z₁₅ (e_cell (c := L + 3) (by kernel_rfl) (by kernel_rfl) (by kernel_rfl) (Z₁₅.get (by repeat' with_reducible constructor))) (Pe.cast (q := .int (((vals.length : Int) + lack) + (lwCost m0 m1 b0 b1 h0 h1 al).1)) (e_lenStr (gl_boot G15 (by kernel_rfl) boot_len (by decide +kernel) (by kernel_rfl) (by kernel_rfl) (by kernel_rfl) (by kernel_rfl)) (by tm_at "pe") (by have := O.ssz; simp; exact Nat.lt_of_le_of_lt (by assumption) (by decide))) (by rw [← O.len]; simp)) (by repeat' with_reducible constructor) (by repeat' with_reducible constructor) (by first | exact szm (by lia) | exact sz (by lia) | (simp [sizeLine]; lia)) (fun h₁₆ Z₁₆ => ?_) (by kernel_rfl)
          refine x_append Z₁₆ (e_cell (c := L + 2) (by kernel_rfl) (by kernel_rfl) (by kernel_rfl) (Z₁₆.get (by repeat' with_reducible constructor))) (p := .int (lwCost m0 m1 b0 b1 h0 h1 al).1) (by tm_at "pe") (by repeat' with_reducible constructor) (by repeat' with_reducible constructor) (by first | exact szm (by lia) | exact sz (by lia) | (simp [sizeLine]; lia)) (fun h₁₇ Z₁₇ => x_nil (kR <| lp_next ?_)) (by kernel_rfl)
          rw [List.take_add_one, hal]
          simp only [Option.toList_some, List.map_append, List.map_cons, List.map_nil]
          exact Z₁₇.wk (by repeat' first | with_reducible constructor | refine' Wk.keep ?_)
    · rintro h₂ Z
      rw [List.take_of_length_le (by lia)] at Z
      refine next_list_end hR.h Z (Z.get (by repeat' with_reducible constructor)) (by rw [List.length_map]; lia) fun h₃ Z₃ => ⟨rfl, kS <| sx_next ?_⟩
      exact Z₃.sub ((((((((List.nil_sublist _).cons_cons _).cons_cons _).cons_cons _).cons_cons _).cons_cons _).cons_cons _))
  · rintro h₁ Z₁
    have := law_t4 (C := C) (P := P) (m := m) (cs := []) (costs := prs.map fun al => (lwCost m0 m1 b0 b1 h0 h1 al).1) hR G X (by simpa using hp) (by simpa using hp) Z₁
    unfold lawBody at this
    rw [hb] at this
    simp only [stmtsOf_s, List.drop_succ_cons, List.drop_zero] at this
    exact this

noncomputable def lwLack (ns : List Int) : Nat := (ns.sum.fmod 3).toNat
noncomputable def lwVals (ns : List Int) : List Int := lawValues ns (lwLack ns)
noncomputable def lwKs (ns : List Int) : List Int := (octAll (lwVals ns ++ [0, 0]) ns.length).take (3 * ns.length - lwLack ns)
noncomputable def lwRow (ns : List Int) : Array UInt8 := byteArr (lwKs ns)
noncomputable def signsB : List (Array UInt8) := [#[46], #[13], #[10], #[43], #[47]]
noncomputable def pairsB : List (Array UInt8) := [#[46, 13], #[46, 10], #[46, 43], #[46, 47], #[13, 46], #[13, 10], #[13, 43], #[13, 47], #[10, 46], #[10, 13], #[10, 43], #[10, 47], #[43, 46], #[43, 13], #[43, 10], #[43, 47], #[47, 46], #[47, 13], #[47, 10], #[47, 43]]
theorem lwLack_lt (ns : List Int) : lwLack ns < 3 := by
  unfold lwLack
  rw [Int.fmod_eq_emod_of_nonneg _ (by decide)]
  lia
theorem lwLack_eq (ns : List Int) : ((lwLack ns : Nat) : Int) = ns.sum.fmod 3 := by
  unfold lwLack
  rw [Int.fmod_eq_emod_of_nonneg _ (by decide)]
  lia
theorem lvOne_mem {acc : List Int} {x : Int} {k : Nat} (h : ∀ v ∈ acc, 0 ≤ v ∧ v < 64) (hl : acc.length < 60) : ∀ v ∈ lvOne acc x k, 0 ≤ v ∧ v < 64 := fun v hv => by
  unfold lvOne at hv
  rcases List.mem_append.mp hv with hv | hv
  · exact h v hv
  · rw [List.mem_singleton] at hv
    subst hv
    split
    · lia
    · split <;> lia
theorem lvAll_mem {ns : List Int} (hn : ns.length ≤ 4) : ∀ v ∈ lvAll ns, 0 ≤ v ∧ v < 64 := by
  have : ∀ (ns : List Int) (acc : List Int), (∀ v ∈ acc, 0 ≤ v ∧ v < 64) → acc.length + 4 * ns.length ≤ 16 → ∀ v ∈ ns.foldl lvNum acc, 0 ≤ v ∧ v < 64 := by
    intro ns
    induction ns with
    | nil => intro acc h _; exact h
    | cons x ns ih =>
      intro acc h hl
      rw [List.length_cons] at hl
      rw [List.foldl_cons]
      refine ih _ ?_ (by rw [lvNum_len]; lia)
      unfold lvNum
      refine lvOne_mem (lvOne_mem (lvOne_mem (lvOne_mem h ?_) ?_) ?_) ?_ <;> (try simp only [lvOne_len]) <;> lia
  exact this ns [] (fun _ m => by simp at m) (by simp; lia)
theorem lv_len {ns : List Int} (h1 : 0 < ns.length) : (lwVals ns).length + lwLack ns = 4 * ns.length := by
  unfold lwVals lawValues lvEnd
  have := lvAll_len ns
  have h3 := lwLack_lt ns
  simp only [List.length_append, List.length_dropLast, List.length_take, List.length_singleton]
  lia
theorem getLastD_mem : ∀ (l : List Int) (a : Int), l.getLastD a = a ∨ l.getLastD a ∈ l
  | [], _ => .inl rfl
  | b :: r, a => by
    rw [List.getLastD_cons]
    rcases getLastD_mem r b with e | e
    · rw [e]; exact .inr (.head _)
    · exact .inr (.tail _ e)
theorem lv_bd {ns : List Int} (h1 : 0 < ns.length) (hn : ns.length ≤ 4) : ∀ v ∈ lwVals ns, 0 ≤ v ∧ v < 64 := fun v hv => by
  unfold lwVals lawValues lvEnd at hv
  have hall := lvAll_mem hn
  rcases List.mem_append.mp hv with hv | hv
  · exact hall v (List.mem_of_mem_take (List.dropLast_subset _ hv))
  · rw [List.mem_singleton] at hv
    have hb : 0 ≤ ((lvAll ns).take ((lvAll ns).length - lwLack ns)).getLastD 0 ∧ ((lvAll ns).take ((lvAll ns).length - lwLack ns)).getLastD 0 < 64 := by
      rcases hq : (lvAll ns).take ((lvAll ns).length - lwLack ns) with _ | ⟨a, r⟩
      · simp
      · rw [List.getLastD_cons]
        refine hall _ (List.mem_of_mem_take (i := (lvAll ns).length - lwLack ns) ?_)
        rw [hq]
        rcases getLastD_mem r a with e | e
        · rw [e]; exact .head _
        · exact .tail _ e
    generalize ((lvAll ns).take ((lvAll ns).length - lwLack ns)).getLastD 0 = x at *
    subst hv
    have h3 := lwLack_lt ns
    have hp : (0 : Int) < 4 ^ lwLack ns := Int.pow_pos (by decide)
    rw [Int.fdiv_eq_ediv_of_nonneg _ (by lia)]
    have e1 := Int.ediv_mul_le x (b := 4 ^ lwLack ns) (by lia)
    have e2 : 0 ≤ x / 4 ^ lwLack ns * 4 ^ lwLack ns := Int.mul_nonneg (Int.ediv_nonneg hb.1 (by lia)) (by lia)
    lia
theorem lwKs_bd {ns : List Int} (h1 : 0 < ns.length) (hn : ns.length ≤ 4) : KBa.In (lwKs ns) := fun n hm =>
  octAll_bd (fun v hv => by
    rcases List.mem_append.mp hv with hv | hv
    · exact lv_bd h1 hn v hv
    · simp at hv; lia) ns.length n (List.mem_of_mem_take hm)
noncomputable abbrev cnt1 (ns : List Int) (x : Int) : Int := (((lwVals ns).count x : Nat) : Int)
noncomputable abbrev cnt2 (ns : List Int) (x : List Int) : Int := (((lcTwos (lwVals ns)).count x : Nat) : Int)

theorem b2aRun_app (s : List Int × Int × Int) (a b : List Int) : (a ++ b).foldl b2aStep s = b.foldl b2aStep (a.foldl b2aStep s) := List.foldl_append ..
theorem octThree_of {p q r : Int} (hq : 0 ≤ q ∧ q < 256) (hr : 0 ≤ r ∧ r < 256) : octThree (p * 65536 + q * 256 + r) = [p, q, r] := by
  unfold octThree
  rw [Int.fdiv_eq_ediv_of_nonneg _ (by decide), Int.fdiv_eq_ediv_of_nonneg _ (by decide), Int.fmod_eq_emod_of_nonneg _ (by decide), Int.fmod_eq_emod_of_nonneg _ (by decide)]
  have h1 : (p * 65536 + q * 256 + r) / 65536 = p := by lia
  have h2 : (p * 65536 + q * 256 + r) / 256 = p * 256 + q := by lia
  have h3 : (p * 65536 + q * 256 + r) % 256 = r := by lia
  have h4 : (p * 256 + q) % 256 = q := by lia
  rw [h1, h2, h3, h4]
theorem oct_four {v0 v1 v2 v3 : Int} (h1 : 0 ≤ v1 ∧ v1 < 64) (h2 : 0 ≤ v2 ∧ v2 < 64) (h3 : 0 ≤ v3 ∧ v3 < 64) : octThree (octNum [v0, v1, v2, v3]) = [v0 * 4 + v1 / 16, v1 % 16 * 16 + v2 / 4, v2 % 4 * 64 + v3] := by
  rw [show octNum [v0, v1, v2, v3] = (v0 * 4 + v1 / 16) * 65536 + (v1 % 16 * 16 + v2 / 4) * 256 + (v2 % 4 * 64 + v3) by simp [octNum]; lia]
  exact octThree_of (by lia) (by lia)
theorem b2aStep_0 (w : List Int) (b : Int) : b2aStep (w, 0, 0) b = (w ++ [b / 4], b % 4, 2) := by simp [b2aStep]
theorem b2aStep_2 (w : List Int) (l b : Int) : b2aStep (w, l, 2) b = (w ++ [l * 16 + b / 16], b % 16, 4) := by simp [b2aStep]
theorem b2aStep_4 (w : List Int) (l b : Int) : b2aStep (w, l, 4) b = (w ++ [l * 4 + b / 64, b % 64], 0, 0) := by simp [b2aStep]
theorem b2a_a {v0 v1 : Int} (h1 : 0 ≤ v1 ∧ v1 < 64) : (v0 * 4 + v1 / 16) / 4 = v0 ∧ (v0 * 4 + v1 / 16) % 4 = v1 / 16 := by lia
theorem b2a_b {v1 v2 : Int} (h2 : 0 ≤ v2 ∧ v2 < 64) : v1 / 16 * 16 + (v1 % 16 * 16 + v2 / 4) / 16 = v1 ∧ (v1 % 16 * 16 + v2 / 4) % 16 = v2 / 4 := by lia
theorem b2a_c {v2 v3 : Int} (h3 : 0 ≤ v3 ∧ v3 < 64) : v2 / 4 * 4 + (v2 % 4 * 64 + v3) / 64 = v2 ∧ (v2 % 4 * 64 + v3) % 64 = v3 := by lia
theorem b2a_three {w : List Int} {v0 v1 v2 v3 : Int} (h1 : 0 ≤ v1 ∧ v1 < 64) (h2 : 0 ≤ v2 ∧ v2 < 64) (h3 : 0 ≤ v3 ∧ v3 < 64) :
    (octThree (octNum [v0, v1, v2, v3])).foldl b2aStep (w, 0, 0) = (w ++ [v0, v1, v2, v3], 0, 0) := by
  rw [oct_four h1 h2 h3]
  simp only [List.foldl_cons, List.foldl_nil]
  rw [b2aStep_0, (b2a_a h1).1, (b2a_a h1).2, b2aStep_2, (b2a_b h2).1, (b2a_b h2).2, b2aStep_4, (b2a_c h3).1, (b2a_c h3).2]
  simp
theorem take4 {l : List Int} {k : Nat} (h : k + 4 ≤ l.length) : ∃ a b c d, (l.drop k).take 4 = [a, b, c, d] ∧ l.take (k + 4) = l.take k ++ [a, b, c, d] ∧ a ∈ l ∧ b ∈ l ∧ c ∈ l ∧ d ∈ l := by
  have hl : ((l.drop k).take 4).length = 4 := by rw [List.length_take, List.length_drop]; lia
  rcases q : (l.drop k).take 4 with _ | ⟨a, _ | ⟨b, _ | ⟨c, _ | ⟨d, _ | ⟨e, r⟩⟩⟩⟩⟩ <;> rw [q] at hl <;> simp at hl
  have m : ∀ x ∈ (l.drop k).take 4, x ∈ l := fun x hx => List.mem_of_mem_drop (List.mem_of_mem_take hx)
  rw [q] at m
  refine ⟨a, b, c, d, rfl, ?_, m _ (by simp), m _ (by simp), m _ (by simp), m _ (by simp)⟩
  rw [List.take_add, q]
theorem b2a_all {pad : List Int} (hb : ∀ v ∈ pad, 0 ≤ v ∧ v < 64) : ∀ m, 4 * m ≤ pad.length → (octAll pad m).foldl b2aStep ([], 0, 0) = (pad.take (4 * m), 0, 0)
  | 0, _ => rfl
  | m + 1, h => by
    obtain ⟨a, b, c, d, e1, e2, ma, mb, mc, md⟩ := take4 (l := pad) (k := 4 * m) (by lia)
    rw [octAll_c, b2aRun_app, b2a_all hb m (by lia), e1, b2a_three (hb b mb) (hb c mc) (hb d md), show 4 * (m + 1) = 4 * m + 4 by lia, e2]
theorem enc_vals {vals : List Int} {m lack : Nat} (hm : 0 < m) (hl : vals.length + lack = 4 * m) (h3 : lack < 3) (hb : ∀ v ∈ vals, 0 ≤ v ∧ v < 64) (hlow : ∀ v, vals[4 * m - lack - 1]? = some v → v % 4 ^ lack = 0) :
    b2aEnd (b2aRun ((octAll (vals ++ [0, 0]) m).take (3 * m - lack))) = vals.map alph ++ List.replicate lack 61 := by
  have hp : ∀ v ∈ vals ++ [0, 0], 0 ≤ v ∧ v < 64 := fun v hv => by
    rcases List.mem_append.mp hv with hv | hv
    · exact hb v hv
    · simp at hv; lia
  obtain ⟨k, rfl⟩ : ∃ k, m = k + 1 := ⟨m - 1, by lia⟩
  have hpl : (vals ++ [0, 0]).length = vals.length + 2 := by simp
  obtain ⟨a, b, c, d, e1, e2, ma, mb, mc, md⟩ := take4 (l := vals ++ [0, 0]) (k := 4 * k) (by lia)
  have o1 := octAll_len (vals ++ [0, 0]) k
  have hz : (octAll (vals ++ [0, 0]) (k + 1)).take (3 * (k + 1) - lack) = octAll (vals ++ [0, 0]) k ++ (octThree (octNum [a, b, c, d])).take (3 - lack) := by
    rw [octAll_c, e1, List.take_append, List.take_of_length_le (by lia), o1, show 3 * (k + 1) - lack - 3 * k = 3 - lack by lia]
  have run : b2aRun ((octAll (vals ++ [0, 0]) (k + 1)).take (3 * (k + 1) - lack)) = ((octThree (octNum [a, b, c, d])).take (3 - lack)).foldl b2aStep ((vals ++ [0, 0]).take (4 * k), 0, 0) := by
    unfold b2aRun
    rw [hz, b2aRun_app, b2a_all hp k (by lia)]
  rw [run]
  have tk : (vals ++ [0, 0]).take (4 * k) = vals.take (4 * k) := by rw [List.take_append_of_le_length (by lia)]
  have three := b2a_three (w := vals.take (4 * k)) (v0 := a) (hp b mb) (hp c mc) (hp d md)
  have four := oct_four (v0 := a) (hp b mb) (hp c mc) (hp d md)
  rw [tk] at e2 ⊢
  have bb := hp b mb
  have bc := hp c mc
  have lk : lack = 0 ∨ lack = 1 ∨ lack = 2 := by lia
  rcases lk with rfl | rfl | rfl
  · rw [show (octThree (octNum [a, b, c, d])).take (3 - 0) = octThree (octNum [a, b, c, d]) from rfl, three]
    have : (vals ++ [0, 0]).take (4 * k + 4) = vals := by rw [List.take_append_of_le_length (by lia), List.take_of_length_le (by lia)]
    rw [this] at e2
    rw [← e2]
    simp [b2aEnd]
  · have h1 : vals.length = 4 * k + 3 := by lia
    have h2 : (vals ++ [0, 0]).take (4 * k + 4) = vals ++ [0] := by rw [List.take_append, List.take_of_length_le (by lia), h1, show 4 * k + 4 - (4 * k + 3) = 1 by lia]; rfl
    rw [h2, show vals.take (4 * k) ++ [a, b, c, d] = (vals.take (4 * k) ++ [a, b, c]) ++ [d] by simp] at e2
    obtain ⟨e3, e4⟩ := List.append_inj' e2 rfl
    have hd : d = 0 := by simpa using e4.symm
    have hc : c % 4 = 0 := by
      have := hlow c (by rw [e3, List.getElem?_append_right (by rw [List.length_take]; lia), List.length_take, show 4 * (k + 1) - 1 - 1 - min (4 * k) vals.length = 2 by lia]; rfl)
      simpa using this
    subst hd
    rw [four]
    simp only [show 3 - 1 = 2 from rfl, List.take_succ_cons, List.take_zero, List.foldl_cons, List.foldl_nil]
    rw [b2aStep_0, (b2a_a bb).1, (b2a_a bb).2, b2aStep_2, (b2a_b bc).1, (b2a_b bc).2]
    unfold b2aEnd
    rw [if_neg (by show ¬ (4 : Int) = 2; decide), if_pos rfl]
    dsimp only
    rw [show c / 4 * 4 = c by lia]
    conv => rhs; rw [e3]
    simp
  · have h1 : vals.length = 4 * k + 2 := by lia
    have h2 : (vals ++ [0, 0]).take (4 * k + 4) = vals ++ [0, 0] := List.take_of_length_le (by simp; lia)
    rw [h2, show vals.take (4 * k) ++ [a, b, c, d] = (vals.take (4 * k) ++ [a, b]) ++ [c, d] by simp] at e2
    obtain ⟨e3, e4⟩ := List.append_inj' e2 rfl
    have hcd : c = 0 ∧ d = 0 := by simp at e4; lia
    have hbb : b % 16 = 0 := by
      have := hlow b (by rw [e3, List.getElem?_append_right (by rw [List.length_take]; lia), List.length_take, show 4 * (k + 1) - 2 - 1 - min (4 * k) vals.length = 1 by lia]; rfl)
      simpa using this
    obtain ⟨rfl, rfl⟩ := hcd
    rw [four]
    simp only [show 3 - 2 = 1 from rfl, List.take_succ_cons, List.take_zero, List.foldl_cons, List.foldl_nil]
    rw [b2aStep_0, (b2a_a bb).1, (b2a_a bb).2]
    unfold b2aEnd
    first | refine ite_t ?_ | refine exs_t ?_ | refine ev_t ?_ | rw [if_pos rfl]
    dsimp only
    rw [show b / 16 * 16 = b by lia]
    conv => rhs; rw [e3]
    simp

noncomputable def symN (x y : Nat) (v : Int) : Nat := if v = 62 then x else if v = 63 then y else (alph v).toNat
theorem transT_two (p q : UInt8) {c : Nat} (hc : c < 256) : (transT [43, 47] [p, q]).getD c c.toUInt8 = if c = 43 then p else if c = 47 then q else c.toUInt8 := by
  have e : transT [43, 47] [p, q] = (((Array.range 256).map (·.toUInt8)).setIfInBounds 43 p).setIfInBounds 47 q := rfl
  rw [e, Array.getD_eq_getD_getElem?, Array.getElem?_setIfInBounds, Array.getElem?_setIfInBounds]
  by_cases h1 : c = 47
  · subst h1; simp
  · by_cases h2 : c = 43
    · subst h2; simp
    · rw [if_neg (fun z => h1 z.symm), if_neg (fun z => h2 z.symm), if_neg h2, if_neg h1]
      simp [hc]
theorem pairs_two : ∀ al ∈ pairsB, al.size = 2 := by decide
theorem trans_pairs (al : Array UInt8) (ha : al ∈ pairsB) (c : Fin 256) : ((transT [43, 47] al.toList).getD c.1 c.1.toUInt8).toNat = if c.1 = 43 then ((KBw.bInts al).getD 0 0).toNat else if c.1 = 47 then ((KBw.bInts al).getD 1 0).toNat else c.1 := by
  have hs := pairs_two al ha
  obtain ⟨p, q, hl⟩ : ∃ p q, al.toList = [p, q] := by
    have : al.toList.length = 2 := by simpa using hs
    rcases h : al.toList with _ | ⟨p, _ | ⟨q, _ | ⟨r, t⟩⟩⟩ <;> rw [h] at this <;> simp at this
    exact ⟨p, q, rfl⟩
  rw [hl, transT_two p q c.2]
  unfold KBw.bInts
  rw [hl]
  split
  · simp
  · split
    · simp
    · rw [show c.1.toUInt8.toNat = c.1 % 256 from rfl]; lia
theorem alph_fin : ∀ v : Fin 64, (alph v.1 = 43 ↔ v.1 = 62) ∧ (alph v.1 = 47 ↔ v.1 = 63) ∧ 43 ≤ alph v.1 ∧ alph v.1 < 123 := by decide
theorem text_eq {ns : List Int} (h1 : 0 < ns.length) (hn : ns.length ≤ 4) {al : Array UInt8} (ha : al ∈ pairsB) (hlow : ∀ v, (lwVals ns)[4 * ns.length - lwLack ns - 1]? = some v → v % 4 ^ lwLack ns = 0) :
    lwText (lwKs ns) al = (lwVals ns).map (symN ((KBw.bInts al).getD 0 0).toNat ((KBw.bInts al).getD 1 0).toNat) ++ List.replicate (lwLack ns) 61 := by
  unfold lwText encB lwKs
  rw [enc_vals h1 (lv_len h1) (lwLack_lt ns) (lv_bd h1 hn) hlow]
  have tr : ∀ c : Int, 0 ≤ c → c < 256 → ((transT [43, 47] al.toList).getD c.toNat.toUInt8.toNat c.toNat.toUInt8).toNat = if c = 43 then ((KBw.bInts al).getD 0 0).toNat else if c = 47 then ((KBw.bInts al).getD 1 0).toNat else c.toNat := fun c h0 h2 => by
    have h := trans_pairs al ha ⟨c.toNat, by lia⟩
    have e : c.toNat.toUInt8.toNat = c.toNat := by
      rw [show c.toNat.toUInt8.toNat = c.toNat % 256 from rfl]
      lia
    rw [e]
    have e2 : (c = 43) = (c.toNat = 43) := propext (by lia)
    have e3 : (c = 47) = (c.toNat = 47) := propext (by lia)
    simp only [e2, e3]
    exact h
  simp only [KBw.bInts, byteArr, List.map_append, Array.toList_map, List.map_map, List.map_replicate]
  congr 1
  · refine List.map_congr_left fun v hv => ?_
    have hb := lv_bd h1 hn v hv
    have hf := alph_fin ⟨v.toNat, by lia⟩
    have hvv : ((v.toNat : Nat) : Int) = v := by lia
    simp only [hvv] at hf
    have := tr (alph v) (by lia) (by lia)
    simp only [Function.comp_apply, Int.toNat_natCast]
    refine this.trans ?_
    unfold symN
    have f1 : (alph v = 43) = (v = 62) := propext ⟨fun h => by have := hf.1.mp h; lia, fun h => hf.1.mpr (by lia)⟩
    have f2 : (alph v = 47) = (v = 63) := propext ⟨fun h => by have := hf.2.1.mp h; lia, fun h => hf.2.1.mpr (by lia)⟩
    simp only [f1, f2]
    rfl
  · congr 1
    have := tr 61 (by decide) (by decide)
    simpa using this
theorem lv_low {ns : List Int} (h1 : 0 < ns.length) : ∀ v, (lwVals ns)[4 * ns.length - lwLack ns - 1]? = some v → v % 4 ^ lwLack ns = 0 := fun v hv => by
  have hl := lv_len h1
  have h3 := lwLack_lt ns
  unfold lwVals lawValues lvEnd at hl hv
  rw [List.length_append, List.length_singleton] at hl
  rw [List.getElem?_append_right (by lia), show 4 * ns.length - lwLack ns - 1 - (List.take ((lvAll ns).length - lwLack ns) (lvAll ns)).dropLast.length = 0 by lia] at hv
  have hv : _ = v := Option.some.inj hv
  rw [← hv]
  exact Int.mul_emod_left _ _

noncomputable def adj (a b : Int) : List Int → Nat
  | v :: w :: r => (if v = a ∧ w = b then 1 else 0) + adj a b (w :: r)
  | _ => 0
noncomputable def adjN (a b : Nat) : List Nat → Nat
  | v :: w :: r => (if v = a ∧ w = b then 1 else 0) + adjN a b (w :: r)
  | _ => 0
theorem adjN_ne {a b c : Nat} (h : c ≠ a) : ∀ t, adjN a b (c :: t) = adjN a b t
  | [] => rfl
  | w :: r => by rw [adjN, if_neg (fun z => h z.1), Nat.zero_add]
theorem crlf_count : ∀ (n : Nat) (s : List Nat), s.length ≤ n → (crlf s).length + 2 * adjN 13 10 s = s.length + s.count 13 + s.count 10
  | _, [], _ => rfl
  | 0, c :: t, h => by simp at h
  | n + 1, c :: t, h => by
    have hl : t.length ≤ n := by simpa using h
    by_cases h2 : c = 13 ∧ t.head? = some 10
    · obtain ⟨rfl, h2⟩ := h2
      cases t with
      | nil => simp at h2
      | cons d t =>
        have : d = 10 := by simpa using h2
        subst this
        have ih := crlf_count n t (by simp at hl; lia)
        rw [crlf_two, adjN, if_pos ⟨rfl, rfl⟩, adjN_ne (by decide)]
        simp only [List.length_cons, List.count_cons]
        simp
        lia
    · have ih := crlf_count n t hl
      have ha : adjN 13 10 (c :: t) = adjN 13 10 t := by
        cases t with
        | nil => rfl
        | cons d t =>
          rw [adjN, if_neg, Nat.zero_add]
          rintro ⟨rfl, rfl⟩
          exact h2 ⟨rfl, rfl⟩
      rw [ha]
      by_cases h1 : c = 13 ∨ c = 10
      · rw [crlf_one h1 h2]
        simp only [List.length_cons, List.count_cons]
        rcases h1 with rfl | rfl <;> simp <;> lia
      · rw [crlf_other h1]
        simp only [List.length_cons, List.count_cons]
        have e1 : (c == 13) = false := by simp; lia
        have e2 : (c == 10) = false := by simp; lia
        rw [e1, e2]
        simp
        lia
theorem dotq_count : ∀ (b : Bool) (s : List Nat), (dotq b s).length = s.length + adjN 10 46 s + (if b = true ∧ s.head? = some 46 then 1 else 0)
  | b, [] => by simp [dotq, adjN]
  | b, c :: t => by
    have hadj : adjN 10 46 (c :: t) = adjN 10 46 t + (if (c == 10) = true ∧ t.head? = some 46 then 1 else 0) := by
      cases t with
      | nil => simp [adjN]
      | cons d t =>
        rw [adjN, Nat.add_comm]
        congr 1
        simp
    rw [dotq_c]
    by_cases h : b = true ∧ c = 46
    · obtain ⟨rfl, rfl⟩ := h
      have ih := dotq_count false t
      simp at ih hadj
      simp [ih, hadj]
      lia
    · have ih := dotq_count (c == 10) t
      have h' : ¬ (b = true ∧ (c :: t).head? = some 46) := fun z => h ⟨z.1, by simpa using z.2⟩
      rw [if_neg h, if_neg h', hadj, List.length_cons, ih, List.length_cons]
      lia
theorem crlf_head (s : List Nat) : (crlf s).head? = some 46 ↔ s.head? = some 46 := by
  cases s with
  | nil => exact Iff.rfl
  | cons c t =>
    by_cases h2 : c = 13 ∧ t.head? = some 10
    · obtain ⟨rfl, h2⟩ := h2
      cases t with
      | nil => simp at h2
      | cons d t =>
        have : d = 10 := by simpa using h2
        subst this
        rw [crlf_two]; simp
    · by_cases h1 : c = 13 ∨ c = 10
      · rw [crlf_one h1 h2]; simp; lia
      · rw [crlf_other h1]; simp
theorem adjN_eq {a b : Nat} (t : List Nat) : adjN a b (a :: t) = (if t.head? = some b then 1 else 0) + adjN a b t := by
  cases t with
  | nil => rfl
  | cons d t => rw [adjN]; simp
theorem crlf_adj : ∀ (n : Nat) (s : List Nat), s.length ≤ n → adjN 10 46 (crlf s) = adjN 13 46 s + adjN 10 46 s
  | _, [], _ => rfl
  | 0, c :: t, h => by simp at h
  | n + 1, c :: t, h => by
    have hl : t.length ≤ n := by simpa using h
    have hh : ∀ t : List Nat, (if (crlf t).head? = some 46 then 1 else 0) = (if t.head? = some 46 then 1 else 0) := fun t => by simp only [crlf_head]
    by_cases h2 : c = 13 ∧ t.head? = some 10
    · obtain ⟨rfl, h2⟩ := h2
      cases t with
      | nil => simp at h2
      | cons d t =>
        have : d = 10 := by simpa using h2
        subst this
        have ih := crlf_adj n t (by simp at hl; lia)
        rw [crlf_two, adjN_ne (a := 10) (by decide), adjN_eq, hh, ih, adjN_eq (a := 13), adjN_ne (a := 13) (by decide), adjN_ne (a := 10) (c := 13) (by decide), adjN_eq (a := 10)]
        simp
        lia
    · have ih := crlf_adj n t hl
      by_cases h1 : c = 13 ∨ c = 10
      · rw [crlf_one h1 h2, adjN_ne (a := 10) (by decide), adjN_eq, hh, ih]
        rcases h1 with rfl | rfl
        · rw [adjN_eq (a := 13), adjN_ne (a := 10) (by decide)]; lia
        · rw [adjN_ne (a := 13) (by decide), adjN_eq (a := 10)]; lia
      · rw [crlf_other h1, adjN_ne (a := 10) (by lia), ih, adjN_ne (a := 13) (by lia), adjN_ne (a := 10) (by lia)]
theorem quoted_count (s : List Nat) : (quoted s).length + 2 * adjN 13 10 s = s.length + s.count 13 + s.count 10 + (adjN 13 46 s + adjN 10 46 s) + (if s.head? = some 46 then 1 else 0) := by
  have h1 := crlf_count s.length s (Nat.le_refl _)
  have h2 := crlf_adj s.length s (Nat.le_refl _)
  unfold quoted
  rw [dotq_count, h2]
  simp only [crlf_head, true_and]
  lia

noncomputable def IsEnd (a : Nat) : Prop := a = 13 ∨ a = 10 ∨ a = 46
theorem sym_is {x y a : Nat} {v : Int} (ha : IsEnd a) (h0 : 0 ≤ v) (h1 : v < 64) : symN x y v = a ↔ (v = 62 ∧ x = a) ∨ (v = 63 ∧ y = a) := by
  unfold symN alph IsEnd at *
  by_cases e1 : v = 62
  · subst e1; simp
  · by_cases e2 : v = 63
    · subst e2; simp
    · rw [if_neg e1, if_neg e2]
      constructor
      · intro h
        exfalso
        revert h
        (repeat' split) <;> lia
      · rintro (⟨h, _⟩ | ⟨h, _⟩)
        · exact absurd h e1
        · exact absurd h e2
theorem count_sym {x y a : Nat} (ha : IsEnd a) (hxy : x ≠ y) : ∀ {vals : List Int}, (∀ v ∈ vals, 0 ≤ v ∧ v < 64) → (vals.map (symN x y)).count a = (if x = a then vals.count 62 else 0) + (if y = a then vals.count 63 else 0)
  | [], _ => by simp
  | v :: vals, hb => by
    have ih := count_sym ha hxy (vals := vals) fun v m => hb v (.tail _ m)
    have hv := hb v (.head _)
    have hs := sym_is (x := x) (y := y) ha hv.1 hv.2
    rw [List.map_cons, List.count_cons, List.count_cons, List.count_cons, ih]
    by_cases e1 : v = 62
    · subst e1
      have : symN x y 62 = x := by simp [symN]
      rw [this]
      by_cases h1 : x = a <;> by_cases h2 : y = a <;> simp [h1, h2] <;> lia
    · by_cases e2 : v = 63
      · subst e2
        have : symN x y 63 = y := by simp [symN]
        rw [this]
        by_cases h1 : x = a <;> by_cases h2 : y = a <;> simp [h1, h2] <;> lia
      · have : ¬ symN x y v = a := fun z => by
          rcases hs.mp z with ⟨h, _⟩ | ⟨h, _⟩
          · exact e1 h
          · exact e2 h
        simp [e1, e2, this]
theorem adj_sym {x y a b : Nat} (ha : IsEnd a) (hb' : IsEnd b) (hab : a ≠ b) (hxy : x ≠ y) : ∀ {vals : List Int}, (∀ v ∈ vals, 0 ≤ v ∧ v < 64) →
    adjN a b (vals.map (symN x y)) = (if x = a ∧ y = b then adj 62 63 vals else 0) + (if y = a ∧ x = b then adj 63 62 vals else 0)
  | [], _ => by simp [adjN, adj]
  | [v], _ => by simp [adjN, adj]
  | v :: w :: vals, hb => by
    have ih := adj_sym ha hb' hab hxy (vals := w :: vals) fun v m => hb v (.tail _ m)
    have hv := hb v (.head _)
    have hw := hb w (.tail _ (.head _))
    have s1 := sym_is (x := x) (y := y) ha hv.1 hv.2
    have s2 := sym_is (x := x) (y := y) hb' hw.1 hw.2
    rw [List.map_cons] at ih
    rw [List.map_cons, List.map_cons, adjN, ih, adj, adj]
    simp only [s1, s2]
    by_cases c1 : x = a ∧ y = b
    · obtain ⟨rfl, rfl⟩ := c1
      simp [hxy, Ne.symm hxy]
    · by_cases c2 : y = a ∧ x = b
      · obtain ⟨rfl, rfl⟩ := c2
        simp [hxy, Ne.symm hxy]
      · rw [if_neg c1, if_neg c2, if_neg c1, if_neg c2]
        rw [if_neg]
        rintro ⟨h1 | h1, h2 | h2⟩
        · exact hab (h1.2.symm.trans h2.2)
        · exact c1 ⟨h1.2, h2.2⟩
        · exact c2 ⟨h1.2, h2.2⟩
        · exact hab (h1.2.symm.trans h2.2)

theorem adjN_cons (a b c : Nat) (t : List Nat) : adjN a b (c :: t) = (if c = a ∧ t.head? = some b then 1 else 0) + adjN a b t := by
  cases t with
  | nil => simp [adjN]
  | cons d t => rw [adjN]; simp
theorem adjN_app {a b : Nat} {r : List Nat} (h : ∀ c ∈ r, c ≠ b) : ∀ s : List Nat, adjN a b (s ++ r) = adjN a b s
  | [] => by
    rw [List.nil_append]
    induction r with
    | nil => rfl
    | cons c r ih =>
      rw [adjN_cons, ih fun c m => h c (.tail _ m), if_neg]
      · rfl
      · rintro ⟨_, h2⟩
        exact h b (.tail _ (List.mem_of_head? h2)) rfl
  | c :: s => by
    rw [List.cons_append, adjN_cons, adjN_cons, adjN_app h s]
    congr 1
    cases s with
    | nil =>
      have : ¬ r.head? = some b := fun z => h b (List.mem_of_head? z) rfl
      simp [this]
    | cons d s => simp
theorem count_rep {a : Nat} (h : a ≠ 61) (s : List Nat) (n : Nat) : (s ++ List.replicate n 61).count a = s.count a := by
  rw [List.count_append, List.count_replicate]
  simp [Ne.symm h]
theorem twos_cons (v w : Int) (r : List Int) : lcTwos (v :: w :: r) = [v, w] :: lcTwos (w :: r) := by
  unfold lcTwos
  simp [List.range_succ_eq_map]
theorem twos_count (a b : Int) : ∀ vs : List Int, (lcTwos vs).count [a, b] = adj a b vs
  | [] => rfl
  | [v] => rfl
  | v :: w :: r => by
    rw [twos_cons, List.count_cons, twos_count a b (w :: r), adj, Nat.add_comm]
    congr 1
    simp
noncomputable abbrev signsN : List Nat := [46, 13, 10, 43, 47]
noncomputable abbrev txtN (x y lack : Nat) (vals : List Int) : List Nat := vals.map (symN x y) ++ List.replicate lack 61
theorem head_txt {x y lack : Nat} {v : Int} {r : List Int} (h0 : 0 ≤ v) (h1 : v < 64) (hxy : x ≠ y) : (if (txtN x y lack (v :: r)).head? = some 46 then 1 else 0) = (if x = 46 then (if v = 62 then 1 else 0) else 0) + (if y = 46 then (if v = 63 then 1 else 0) else 0) := by
  have hs := sym_is (x := x) (y := y) (a := 46) (.inr (.inr rfl)) h0 h1
  show (if some (symN x y v) = some 46 then 1 else 0) = _
  simp only [Option.some.injEq, hs]
  by_cases a : v = 62
  · subst a; by_cases b : x = 46 <;> simp [b]
  · by_cases a : v = 63
    · subst a; by_cases b : y = 46 <;> simp [b]
    · simp [*]
structure TxtC (x y lack : Nat) (vals : List Int) : Prop where
  c13 : (txtN x y lack vals).count 13 = (if x = 13 then vals.count 62 else 0) + (if y = 13 then vals.count 63 else 0)
  c10 : (txtN x y lack vals).count 10 = (if x = 10 then vals.count 62 else 0) + (if y = 10 then vals.count 63 else 0)
  a1 : adjN 13 10 (txtN x y lack vals) = (if x = 13 ∧ y = 10 then adj 62 63 vals else 0) + (if y = 13 ∧ x = 10 then adj 63 62 vals else 0)
  a2 : adjN 13 46 (txtN x y lack vals) = (if x = 13 ∧ y = 46 then adj 62 63 vals else 0) + (if y = 13 ∧ x = 46 then adj 63 62 vals else 0)
  a3 : adjN 10 46 (txtN x y lack vals) = (if x = 10 ∧ y = 46 then adj 62 63 vals else 0) + (if y = 10 ∧ x = 46 then adj 63 62 vals else 0)
theorem txtC {x y : Nat} {vals : List Int} (lack : Nat) (hxy : x ≠ y) (hb : ∀ v ∈ vals, 0 ≤ v ∧ v < 64) : TxtC x y lack vals := by
  have m : ∀ {b}, b ≠ 61 → ∀ c ∈ List.replicate lack 61, c ≠ b := fun hb c hc => by rw [List.mem_replicate] at hc; lia
  refine ⟨?_, ?_, ?_, ?_, ?_⟩
  · rw [count_rep (by decide), count_sym (.inl rfl) hxy hb]
  · rw [count_rep (by decide), count_sym (.inr (.inl rfl)) hxy hb]
  · rw [adjN_app (m (by decide)), adj_sym (.inl rfl) (.inr (.inl rfl)) (by decide) hxy hb]
  · rw [adjN_app (m (by decide)), adj_sym (.inl rfl) (.inr (.inr rfl)) (by decide) hxy hb]
  · rw [adjN_app (m (by decide)), adj_sym (.inr (.inl rfl)) (.inr (.inr rfl)) (by decide) hxy hb]
noncomputable abbrev costN (x y : Nat) (vals : List Int) : Int × Bool := lkCost ((vals.count 62 : Nat) : Int) ((vals.count 63 : Nat) : Int) (((lcTwos vals).count [63, 62] : Nat) : Int) (((lcTwos vals).count [62, 63] : Nat) : Int) (lcHead vals 62) (lcHead vals 63) x y
theorem lcHead_cons (v x : Int) (r : List Int) : lcHead (v :: r) x = ((if v = x then 1 else 0 : Nat) : Int) := by
  unfold lcHead
  simp only [List.getD_cons_zero]
  split <;> rfl
theorem signs_lt {x : Nat} (hx : x ∈ signsN) : x < 48 := (by decide : ∀ x ∈ signsN, x < 48) x hx
theorem ends_eq (M x : Nat) : (((if x = 13 then M else 0) + if x = 10 then M else 0 : Nat) : Int) = lkEnds M x := by
  by_cases a : x = 13
  · subst a; rfl
  by_cases b : x = 10
  · subst b; exact congrArg Nat.cast (Nat.zero_add M)
  · rw [if_neg a, if_neg b]
    unfold lkEnds isEnd
    rw [decide_eq_false (p := ((x : Nat) : Int) = 10) fun z => b (Int.ofNat.inj z), decide_eq_false (p := ((x : Nat) : Int) = 13) fun z => a (Int.ofNat.inj z)]; rfl
theorem dots_eq (A J x y : Nat) : (((if x = 13 ∧ y = 46 then A else 0) + (if x = 10 ∧ y = 46 then A else 0) + (if y = 46 then J else 0) : Nat) : Int) = lkDots J A y x := by
  by_cases c : y = 46
  · subst c
    by_cases a : x = 13
    · subst a; exact congrArg Nat.cast (Nat.add_comm A J)
    by_cases b : x = 10
    · subst b; exact congrArg Nat.cast ((congrArg (· + J) (Nat.zero_add A)).trans (Nat.add_comm A J))
    · rw [if_neg fun z => a z.1, if_neg fun z => b z.1]
      unfold lkDots isEnd
      rw [decide_eq_false (p := ((x : Nat) : Int) = 10) fun z => b (Int.ofNat.inj z), decide_eq_false (p := ((x : Nat) : Int) = 13) fun z => a (Int.ofNat.inj z)]
      exact congrArg Nat.cast (Nat.zero_add J)
  · rw [if_neg fun z => c z.2, if_neg fun z => c z.2, if_neg c]
    unfold lkDots
    rw [if_neg (c := ((y : Nat) : Int) = 46) fun z => c (Int.ofNat.inj z), ite_self]; rfl
theorem qc_fin {T U a1 a2 b1 b2 h j m1 m2 n1 n2 : Nat} {EM EN D1 D2 : Int} (q : T + 2 * (0 + 0) = U + (m1 + n1) + (m2 + n2) + ((a1 + b1) + (a2 + b2)) + (h + j)) (e1 : ((m1 + m2 : Nat) : Int) = EM) (e2 : ((n1 + n2 : Nat) : Int) = EN)
    (d1 : ((b1 + b2 + h : Nat) : Int) = D1) (d2 : ((a1 + a2 + j : Nat) : Int) = D2) : (T : Int) = U + (EM + EN + (D1 + D2)) ∧ (D1 + D2 = 0 → a1 + b1 = 0 ∧ a2 + b2 = 0 ∧ h + j = 0) := by
  subst e1 e2 d1 d2
  exact ⟨by lia, fun z => by lia⟩
theorem qc_one {M N A T U : Nat} (q : T + 2 * (A + 0) = U + (M + 0) + (0 + N) + ((0 + 0) + (0 + 0)) + (0 + 0)) : (T : Int) = U + ((M : Int) + N - 2 * A) ∧ ((M : Int) + N - 2 * A = 0 → 2 * (A + 0) = (M + 0) + (0 + N)) := by lia
theorem qc_two {M N B T U : Nat} (q : T + 2 * (0 + B) = U + (0 + N) + (M + 0) + ((0 + 0) + (0 + 0)) + (0 + 0)) : (T : Int) = U + ((M : Int) + N - 2 * B) ∧ ((M : Int) + N - 2 * B = 0 → 2 * (0 + B) = (0 + N) + (M + 0)) := by lia
theorem quoted_cost {x y M N A B H J T U : Nat} (hxy : x ≠ y)
    (q : T + 2 * ((if x = 13 ∧ y = 10 then A else 0) + if y = 13 ∧ x = 10 then B else 0) = U + ((if x = 13 then M else 0) + if y = 13 then N else 0) + ((if x = 10 then M else 0) + if y = 10 then N else 0) + (((if x = 13 ∧ y = 46 then A else 0) + if y = 13 ∧ x = 46 then B else 0) + ((if x = 10 ∧ y = 46 then A else 0) + if y = 10 ∧ x = 46 then B else 0)) + ((if x = 46 then H else 0) + if y = 46 then J else 0)) :
    (T : Int) = U + (lkCost M N B A H J x y).1 ∧ ((lkCost M N B A H J x y).2 = true →
      ((if x = 13 ∧ y = 46 then A else 0) + if y = 13 ∧ x = 46 then B else 0) = 0 ∧ ((if x = 10 ∧ y = 46 then A else 0) + if y = 10 ∧ x = 46 then B else 0) = 0 ∧ ((if x = 46 then H else 0) + if y = 46 then J else 0) = 0 ∧
      ((x = 13 ∧ y = 10 ∨ x = 10 ∧ y = 13) → 2 * ((if x = 13 ∧ y = 10 then A else 0) + if y = 13 ∧ x = 10 then B else 0) = ((if x = 13 then M else 0) + if y = 13 then N else 0) + ((if x = 10 then M else 0) + if y = 10 then N else 0))) := by
  by_cases p : x = 13 ∧ y = 10
  · obtain ⟨rfl, rfl⟩ := p
    exact ⟨(qc_one q).1, fun z => ⟨rfl, rfl, rfl, fun _ => (qc_one q).2 (of_decide_eq_true z)⟩⟩
  by_cases p' : y = 13 ∧ x = 10
  · obtain ⟨rfl, rfl⟩ := p'
    exact ⟨(qc_two q).1, fun z => ⟨rfl, rfl, rfl, fun _ => (qc_two q).2 (of_decide_eq_true z)⟩⟩
  rw [if_neg p, if_neg p'] at q ⊢
  have e : lkCost M N B A H J x y = (lkEnds M x + lkEnds N y + (lkDots H B x y + lkDots J A y x), decide (lkDots H B x y + lkDots J A y x = 0)) := by
    unfold lkCost
    rw [if_neg fun z => p ⟨Int.ofNat.inj z.1, Int.ofNat.inj z.2⟩, if_neg fun z => p' ⟨Int.ofNat.inj z.2, Int.ofNat.inj z.1⟩]
  rw [e]
  have f := qc_fin q (ends_eq M x) (ends_eq N y) (dots_eq B H y x) (dots_eq A J x y)
  exact ⟨f.1, fun z => ⟨(f.2 (of_decide_eq_true z)).1, (f.2 (of_decide_eq_true z)).2.1, (f.2 (of_decide_eq_true z)).2.2, fun z => (z.elim p fun z => p' z.symm).elim⟩⟩
theorem quoted_len {x y lack : Nat} {vals : List Int} (hxy : x ≠ y) (hb : ∀ v ∈ vals, 0 ≤ v ∧ v < 64) (h0 : vals ≠ []) :
    ((quoted (txtN x y lack vals)).length : Int) = ((vals.length : Nat) : Int) + ((lack : Nat) : Int) + (costN x y vals).1 := by
  obtain ⟨v, r, rfl⟩ := List.exists_cons_of_ne_nil h0
  have hv := hb v (.head _)
  have q := quoted_count (txtN x y lack (v :: r))
  have c := txtC lack hxy hb
  rw [head_txt hv.1 hv.2 hxy, c.c13, c.c10, c.a1, c.a2, c.a3, show (txtN x y lack (v :: r)).length = (v :: r).length + lack by simp [txtN]; lia] at q
  have := (quoted_cost hxy q).1
  unfold costN
  rw [twos_count, twos_count, lcHead_cons, lcHead_cons, this]
  lia

theorem dotq_id : ∀ (b : Bool) (s : List Nat), adjN 10 46 s = 0 → ¬ (b = true ∧ s.head? = some 46) → dotq b s = s
  | _, [], _, _ => rfl
  | b, c :: t, h1, h2 => by
    rw [adjN_cons] at h1
    have h3 : ¬ (c = 10 ∧ t.head? = some 46) := fun z => by rw [if_pos z] at h1; lia
    rw [dotq_c, if_neg (fun z => h2 ⟨z.1, by simp [z.2]⟩), dotq_id (c == 10) t (by lia) (fun z => h3 ⟨by simpa using z.1, z.2⟩)]
theorem crlf_ge : ∀ (n : Nat) (s : List Nat), s.length ≤ n → s.length ≤ (crlf s).length ∧ ((crlf s).length = s.length → crlf s = s)
  | _, [], _ => ⟨Nat.le_refl _, fun _ => rfl⟩
  | 0, c :: t, h => by simp at h
  | n + 1, c :: t, h => by
    have hl : t.length ≤ n := by simpa using h
    by_cases h2 : c = 13 ∧ t.head? = some 10
    · obtain ⟨rfl, h2⟩ := h2
      cases t with
      | nil => simp at h2
      | cons d t =>
        have : d = 10 := by simpa using h2
        subst this
        have ih := crlf_ge n t (by simp at hl; lia)
        rw [crlf_two]
        simp only [List.length_cons, List.cons.injEq, true_and]
        exact ⟨by lia, fun e => ih.2 (by lia)⟩
    · have ih := crlf_ge n t hl
      by_cases h1 : c = 13 ∨ c = 10
      · rw [crlf_one h1 h2]
        simp only [List.length_cons]
        exact ⟨by lia, fun e => by lia⟩
      · rw [crlf_other h1]
        simp only [List.length_cons, List.cons.injEq, true_and]
        exact ⟨by lia, fun e => ih.2 (by lia)⟩
noncomputable def goodB (c : Int) : Bool := decide (c = 61) || decide (b64v c < 64)
theorem a2_filter : ∀ (l : List Int) (s : A2), l.foldl A2.step s = (l.filter goodB).foldl A2.step s
  | [], _ => rfl
  | c :: l, s => by
    rw [List.foldl_cons, List.filter_cons]
    by_cases h : goodB c = true
    · rw [if_pos h, List.foldl_cons, a2_filter l]
    · rw [if_neg h, ← a2_filter l]
      congr 1
      unfold goodB at h
      simp at h
      unfold A2.step
      rw [if_neg h.1, if_pos h.2]
noncomputable def unT (x y c : Nat) : Int := if c = x then 43 else if c = y then 47 else c
theorem crlf_filter {x y : Nat} : ∀ (n : Nat) (s : List Nat), s.length ≤ n → (∀ c ∈ s, (c = 13 → goodB (unT x y 10) = false) ∧ (c = 10 → goodB (unT x y 13) = false)) → ((crlf s).map (unT x y)).filter goodB = (s.map (unT x y)).filter goodB
  | _, [], _, _ => rfl
  | 0, c :: t, h, _ => by simp at h
  | n + 1, c :: t, h, hg => by
    have hl : t.length ≤ n := by simpa using h
    by_cases h2 : c = 13 ∧ t.head? = some 10
    · obtain ⟨rfl, h2⟩ := h2
      cases t with
      | nil => simp at h2
      | cons d t =>
        have : d = 10 := by simpa using h2
        subst this
        have ih := crlf_filter n t (by simp at hl; lia) fun c m => hg c (.tail _ (.tail _ m))
        rw [crlf_two]
        simp only [List.map_cons, List.filter_cons, ih]
    · have ih := crlf_filter n t hl fun c m => hg c (.tail _ m)
      by_cases h1 : c = 13 ∨ c = 10
      · rw [crlf_one h1 h2]
        have g := hg c (.head _)
        rcases h1 with rfl | rfl
        · simp only [List.map_cons, List.filter_cons, ih, g.1 rfl]; simp
        · simp only [List.map_cons, List.filter_cons, ih, g.2 rfl]; simp
      · rw [crlf_other h1]
        simp only [List.map_cons, List.filter_cons, ih]
theorem mem_txt {x y lack a : Nat} {vals : List Int} (ha : IsEnd a) (hb : ∀ v ∈ vals, 0 ≤ v ∧ v < 64) (m : a ∈ txtN x y lack vals) : x = a ∨ y = a := by
  rcases List.mem_append.mp m with m | m
  · obtain ⟨v, hv, e⟩ := List.mem_map.mp m
    rcases (sym_is ha (hb v hv).1 (hb v hv).2).mp e with h | h
    · exact .inl h.2
    · exact .inr h.2
  · rw [List.mem_replicate] at m
    unfold IsEnd at ha; lia
theorem good10 {x y : Nat} (h1 : x ≠ 10) (h2 : y ≠ 10) : goodB (unT x y 10) = false := by
  unfold unT; rw [if_neg (Ne.symm h1), if_neg (Ne.symm h2)]; decide
theorem good13 {x y : Nat} (h1 : x ≠ 13) (h2 : y ≠ 13) : goodB (unT x y 13) = false := by
  unfold unT; rw [if_neg (Ne.symm h1), if_neg (Ne.symm h2)]; decide
theorem quoted_back {x y lack : Nat} {vals : List Int} (hxy : x ≠ y) (hb : ∀ v ∈ vals, 0 ≤ v ∧ v < 64) (h0 : vals ≠ []) (hc : (costN x y vals).2 = true) :
    ((quoted (txtN x y lack vals)).map (unT x y)).filter goodB = ((txtN x y lack vals).map (unT x y)).filter goodB := by
  obtain ⟨v, r, rfl⟩ := List.exists_cons_of_ne_nil h0
  have hv := hb v (.head _)
  have c := txtC lack hxy hb
  have ht := head_txt (lack := lack) (r := r) hv.1 hv.2 hxy
  have key : adjN 13 46 (txtN x y lack (v :: r)) = 0 ∧ adjN 10 46 (txtN x y lack (v :: r)) = 0 ∧ ¬ (txtN x y lack (v :: r)).head? = some 46 ∧ ((x = 13 ∧ y = 10 ∨ x = 10 ∧ y = 13) → 2 * adjN 13 10 (txtN x y lack (v :: r)) = (txtN x y lack (v :: r)).count 13 + (txtN x y lack (v :: r)).count 10) := by
    rw [c.a2, c.a3, c.a1, c.c13, c.c10]
    have hd : (¬ (txtN x y lack (v :: r)).head? = some 46) ↔ (if (txtN x y lack (v :: r)).head? = some 46 then 1 else 0) = 0 := ⟨fun z => if_neg z, fun e z => by rw [if_pos z] at e; exact absurd e (by decide)⟩
    have q := quoted_count (txtN x y lack (v :: r))
    rw [ht, c.c13, c.c10, c.a1, c.a2, c.a3] at q
    rw [hd, ht]
    unfold costN at hc
    rw [twos_count, twos_count, lcHead_cons, lcHead_cons] at hc
    exact (quoted_cost hxy q).2 hc
  obtain ⟨k1, k2, k3, k4⟩ := key
  have hq : quoted (txtN x y lack (v :: r)) = crlf (txtN x y lack (v :: r)) := by
    unfold quoted
    refine dotq_id true _ ?_ ?_
    · rw [crlf_adj _ _ (Nat.le_refl _), k1, k2]
    · rw [crlf_head]; exact fun z => k3 z.2
  rw [hq]
  by_cases two : x = 13 ∧ y = 10 ∨ x = 10 ∧ y = 13
  · have h := crlf_count _ (txtN x y lack (v :: r)) (Nat.le_refl _)
    have h2 := k4 two
    rw [(crlf_ge _ (txtN x y lack (v :: r)) (Nat.le_refl _)).2 (by lia)]
  · refine crlf_filter _ _ (Nat.le_refl _) fun a m => ⟨fun e => ?_, fun e => ?_⟩
    · subst e
      have := mem_txt (.inl rfl) hb m
      exact good10 (fun z => by lia) (fun z => by lia)
    · subst e
      have := mem_txt (.inr (.inl rfl)) hb m
      exact good13 (fun z => by lia) (fun z => by lia)
theorem alph_lo {v : Int} (h0 : 0 ≤ v) (h1 : v < 64) : b64v (alph v) = v ∧ alph v ≠ 61 ∧ (v < 62 → 48 ≤ alph v) ∧ 43 ≤ alph v ∧ alph v < 128 := by
  have := (by decide : ∀ v : Fin 64, b64v (alph v.1) = v.1 ∧ alph v.1 ≠ 61 ∧ ((v.1 : Int) < 62 → 48 ≤ alph v.1) ∧ 43 ≤ alph v.1 ∧ alph v.1 < 128) ⟨v.toNat, by lia⟩
  have e : ((v.toNat : Nat) : Int) = v := by lia
  simp only [e] at this
  exact this
theorem un_sym {x y : Nat} (hx : x ∈ signsN) (hy : y ∈ signsN) (hxy : x ≠ y) {v : Int} (h0 : 0 ≤ v) (h1 : v < 64) : unT x y (symN x y v) = alph v := by
  unfold unT symN
  by_cases a : v = 62
  · subst a; simp [alph]
  · by_cases b : v = 63
    · subst b; simp [alph, Ne.symm hxy]
    · have l := alph_lo h0 h1
      have l2 := l.2.2.1 (by lia)
      have ex := signs_lt hx
      have ey := signs_lt hy
      have e : ((alph v).toNat : Int) = alph v := by lia
      rw [if_neg a, if_neg b, if_neg (by lia), if_neg (by lia), e]
theorem un_txt {x y lack : Nat} {vals : List Int} (hx : x ∈ signsN) (hy : y ∈ signsN) (hxy : x ≠ y) (hb : ∀ v ∈ vals, 0 ≤ v ∧ v < 64) : (txtN x y lack vals).map (unT x y) = vals.map alph ++ List.replicate lack 61 := by
  unfold txtN
  rw [List.map_append, List.map_map, List.map_replicate]
  congr 1
  · exact List.map_congr_left fun v m => un_sym hx hy hxy (hb v m).1 (hb v m).2
  · congr 1
    have ex := signs_lt hx
    have ey := signs_lt hy
    unfold unT
    rw [if_neg (by lia), if_neg (by lia)]
    rfl
theorem a2_val {s : A2} {v : Int} (h0 : 0 ≤ v) (h1 : v < 64) : s.step (alph v) = if s.quad = 0 then ⟨s.out, 1, v, 0⟩ else if s.quad = 1 then ⟨s.out ++ [s.left * 4 + v / 16], 2, v % 16, 0⟩ else if s.quad = 2 then ⟨s.out ++ [s.left * 16 + v / 4], 3, v % 4, 0⟩ else ⟨s.out ++ [s.left * 64 + v], 0, 0, 0⟩ := by
  have l := alph_lo h0 h1
  unfold A2.step
  rw [if_neg l.2.1, l.1, if_neg (by lia)]
theorem a2_four {w : List Int} {v0 v1 v2 v3 : Int} (h0 : 0 ≤ v0 ∧ v0 < 64) (h1 : 0 ≤ v1 ∧ v1 < 64) (h2 : 0 ≤ v2 ∧ v2 < 64) (h3 : 0 ≤ v3 ∧ v3 < 64) :
    ([v0, v1, v2, v3].map alph).foldl A2.step ⟨w, 0, 0, 0⟩ = ⟨w ++ octThree (octNum [v0, v1, v2, v3]), 0, 0, 0⟩ := by
  simp only [List.map_cons, List.map_nil, List.foldl_cons, List.foldl_nil]
  rw [a2_val h0.1 h0.2, if_pos rfl, a2_val h1.1 h1.2, if_neg (by show ¬ (1 : Int) = 0; decide), if_pos rfl, a2_val h2.1 h2.2, if_neg (by show ¬ (2 : Int) = 0; decide), if_neg (by show ¬ (2 : Int) = 1; decide), if_pos rfl,
    a2_val h3.1 h3.2, if_neg (by show ¬ (3 : Int) = 0; decide), if_neg (by show ¬ (3 : Int) = 1; decide), if_neg (by show ¬ (3 : Int) = 2; decide)]
  rw [oct_four h1 h2 h3]
  simp only [List.append_assoc, List.cons_append, List.nil_append]
theorem a2_all {pad : List Int} (hb : ∀ v ∈ pad, 0 ≤ v ∧ v < 64) : ∀ m, 4 * m ≤ pad.length → ((pad.take (4 * m)).map alph).foldl A2.step ⟨[], 0, 0, 0⟩ = ⟨octAll pad m, 0, 0, 0⟩
  | 0, _ => rfl
  | m + 1, h => by
    obtain ⟨a, b, c, d, e1, e2, ma, mb, mc, md⟩ := take4 (l := pad) (k := 4 * m) (by lia)
    rw [octAll_c, show 4 * (m + 1) = 4 * m + 4 by lia, e2, List.map_append, List.foldl_append, a2_all hb m (by lia), a2_four (hb a ma) (hb b mb) (hb c mc) (hb d md), e1]
theorem dec_vals {vals : List Int} {m lack : Nat} (hm : 0 < m) (hl : vals.length + lack = 4 * m) (h3 : lack < 3) (hb : ∀ v ∈ vals, 0 ≤ v ∧ v < 64) :
    ∃ q l p, a2bRun (vals.map alph ++ List.replicate lack 61) = ⟨(octAll (vals ++ [0, 0]) m).take (3 * m - lack), q, l, p⟩ ∧ (q = 0 ∨ 2 ≤ q ∧ 4 ≤ q + p) := by
  have hp : ∀ v ∈ vals ++ [0, 0], 0 ≤ v ∧ v < 64 := fun v hv => by
    rcases List.mem_append.mp hv with hv | hv
    · exact hb v hv
    · simp at hv; lia
  obtain ⟨k, rfl⟩ : ∃ k, m = k + 1 := ⟨m - 1, by lia⟩
  have hpl : (vals ++ [0, 0]).length = vals.length + 2 := by simp
  obtain ⟨a, b, c, d, e1, e2, ma, mb, mc, md⟩ := take4 (l := vals ++ [0, 0]) (k := 4 * k) (by lia)
  have o1 := octAll_len (vals ++ [0, 0]) k
  have hz : (octAll (vals ++ [0, 0]) (k + 1)).take (3 * (k + 1) - lack) = octAll (vals ++ [0, 0]) k ++ (octThree (octNum [a, b, c, d])).take (3 - lack) := by
    rw [octAll_c, e1, List.take_append, List.take_of_length_le (by lia), o1, show 3 * (k + 1) - lack - 3 * k = 3 - lack by lia]
  rw [hz]
  have tk : (vals ++ [0, 0]).take (4 * k) = vals.take (4 * k) := by rw [List.take_append_of_le_length (by lia)]
  have all := a2_all hp k (by lia)
  rw [tk] at e2 all
  have four := oct_four (v0 := a) (hp b mb) (hp c mc) (hp d md)
  have ba := hp a ma
  have bb := hp b mb
  have bc := hp c mc
  have bd := hp d md
  have lk : lack = 0 ∨ lack = 1 ∨ lack = 2 := by lia
  have st61 : ∀ s : A2, s.step 61 = ⟨s.out, s.quad, s.left, s.pads + 1⟩ := fun s => by unfold A2.step; rw [if_pos rfl]
  unfold a2bRun
  rcases lk with rfl | rfl | rfl
  · have : (vals ++ [0, 0]).take (4 * k + 4) = vals := by rw [List.take_append_of_le_length (by lia), List.take_of_length_le (by lia)]
    rw [this] at e2
    refine ⟨0, 0, 0, ?_, .inl rfl⟩
    rw [List.replicate_zero, List.append_nil]
    conv => lhs; rw [e2]
    rw [List.map_append, List.foldl_append, all, a2_four ba bb bc bd]
    rfl
  · have h1 : vals.length = 4 * k + 3 := by lia
    have h2 : (vals ++ [0, 0]).take (4 * k + 4) = vals ++ [0] := by rw [List.take_append, List.take_of_length_le (by lia), h1, show 4 * k + 4 - (4 * k + 3) = 1 by lia]; rfl
    rw [h2, show vals.take (4 * k) ++ [a, b, c, d] = (vals.take (4 * k) ++ [a, b, c]) ++ [d] by simp] at e2
    obtain ⟨e3, e4⟩ := List.append_inj' e2 rfl
    have hd : d = 0 := by simpa using e4.symm
    subst hd
    refine ⟨3, c % 4, 1, ?_, .inr ⟨by decide, by decide⟩⟩
    conv => lhs; rw [e3]
    rw [List.map_append, List.foldl_append, List.foldl_append, all]
    simp only [List.map_cons, List.map_nil, List.foldl_cons, List.foldl_nil, List.replicate_succ, List.replicate_zero]
    rw [a2_val ba.1 ba.2, if_pos rfl, a2_val bb.1 bb.2, if_neg (by show ¬ (1 : Int) = 0; decide), if_pos rfl, a2_val bc.1 bc.2, if_neg (by show ¬ (2 : Int) = 0; decide), if_neg (by show ¬ (2 : Int) = 1; decide), if_pos rfl, st61, four]
    simp
  · have h1 : vals.length = 4 * k + 2 := by lia
    have h2 : (vals ++ [0, 0]).take (4 * k + 4) = vals ++ [0, 0] := List.take_of_length_le (by simp; lia)
    rw [h2, show vals.take (4 * k) ++ [a, b, c, d] = (vals.take (4 * k) ++ [a, b]) ++ [c, d] by simp] at e2
    obtain ⟨e3, e4⟩ := List.append_inj' e2 rfl
    have hcd : c = 0 ∧ d = 0 := by simp at e4; lia
    obtain ⟨rfl, rfl⟩ := hcd
    refine ⟨2, b % 16, 2, ?_, .inr ⟨by decide, by decide⟩⟩
    conv => lhs; rw [e3]
    rw [List.map_append, List.foldl_append, List.foldl_append, all]
    simp only [List.map_cons, List.map_nil, List.foldl_cons, List.foldl_nil, List.replicate_succ, List.replicate_zero]
    rw [a2_val ba.1 ba.2, if_pos rfl, a2_val bb.1 bb.2, if_neg (by show ¬ (1 : Int) = 0; decide), if_pos rfl, st61, st61, four]
    simp

theorem crlf_all (p : Nat → Bool) (h13 : p 13 = true) (h10 : p 10 = true) : ∀ (n : Nat) (s : List Nat), s.length ≤ n → s.all p = true → (crlf s).all p = true
  | _, [], _, _ => rfl
  | 0, c :: t, h, _ => by simp at h
  | n + 1, c :: t, h, hp => by
    have hl : t.length ≤ n := by simpa using h
    rw [List.all_cons, Bool.and_eq_true] at hp
    by_cases h2 : c = 13 ∧ t.head? = some 10
    · obtain ⟨rfl, h2⟩ := h2
      cases t with
      | nil => simp at h2
      | cons d t =>
        have : d = 10 := by simpa using h2
        subst this
        have h4 := hp.2
        rw [List.all_cons, Bool.and_eq_true] at h4
        have ih := crlf_all p h13 h10 n t (by simp at hl; lia) h4.2
        rw [crlf_two, List.all_cons, List.all_cons, h13, h10, ih]; rfl
    · have ih := crlf_all p h13 h10 n t hl hp.2
      by_cases h1 : c = 13 ∨ c = 10
      · rw [crlf_one h1 h2, List.all_cons, List.all_cons, h13, h10, ih]; rfl
      · rw [crlf_other h1, List.all_cons, hp.1, ih]; rfl
theorem dotq_all (p : Nat → Bool) (h46 : p 46 = true) : ∀ (b : Bool) (s : List Nat), s.all p = true → (dotq b s).all p = true
  | _, [], _ => rfl
  | b, c :: t, hp => by
    rw [List.all_cons, Bool.and_eq_true] at hp
    rw [dotq_c]
    split
    · rw [List.all_cons, List.all_cons, h46, dotq_all p h46 false t hp.2]; rfl
    · rw [List.all_cons, hp.1, dotq_all p h46 _ t hp.2]; rfl
structure PairF (al : Array UInt8) (x y : Nat) : Prop where
  sz : al.size = 2
  e0 : (KBw.bInts al).getD 0 0 = (x : Int)
  e1 : (KBw.bInts al).getD 1 0 = (y : Int)
  mx : x ∈ signsN
  my : y ∈ signsN
  ne : x ≠ y
  hc1 : ((x : Int) = 13 ∧ (y : Int) = 10) ↔ al = #[13, 10]
  hc2 : ((x : Int) = 10 ∧ (y : Int) = 13) ↔ al = #[10, 13]
  un : ∀ c : Fin 256, ((transT al.toList [43, 47]).getD c.1 c.1.toUInt8).toNat = if c.1 = y then 47 else if c.1 = x then 43 else c.1
theorem untrans_two {p q : UInt8} {c : Nat} (hc : c < 256) : (transT [p, q] [43, 47]).getD c c.toUInt8 = if c = q.toNat then 47 else if c = p.toNat then 43 else c.toUInt8 := by
  have e : transT [p, q] [43, 47] = (((Array.range 256).map (·.toUInt8)).setIfInBounds p.toNat 43).setIfInBounds q.toNat 47 := rfl
  have hp := p.toNat_lt
  have hq := q.toNat_lt
  rw [e, Array.getD_eq_getD_getElem?, Array.getElem?_setIfInBounds, Array.getElem?_setIfInBounds]
  by_cases h1 : c = q.toNat
  · subst h1; simp [hq]
  · by_cases h2 : c = p.toNat
    · subst h2; rw [if_neg (fun z => h1 z.symm)]; simp [h1, hp]
    · rw [if_neg (fun z => h1 z.symm), if_neg (fun z => h2 z.symm), if_neg h2, if_neg h1]
      simp [hc]
theorem pairF {al : Array UInt8} (ha : al ∈ pairsB) : ∃ x y, PairF al x y := by
  have hs := pairs_two al ha
  have hsg : (∀ c ∈ al.toList, c.toNat ∈ signsN) ∧ al.toList.Nodup := (by decide +kernel : ∀ al ∈ pairsB, (∀ c ∈ al.toList, c.toNat ∈ signsN) ∧ al.toList.Nodup) al ha
  obtain ⟨p, q, hl⟩ : ∃ p q, al.toList = [p, q] := by
    have : al.toList.length = 2 := by simpa using hs
    rcases h : al.toList with _ | ⟨p, _ | ⟨q, _ | ⟨r, t⟩⟩⟩ <;> rw [h] at this <;> simp at this
    exact ⟨p, q, rfl⟩
  have hne : p ≠ q := by
    have := hsg.2
    rw [hl] at this
    simpa using this
  have tn : ∀ {u v : UInt8}, u.toNat = v.toNat ↔ u = v := ⟨UInt8.toNat_inj.mp, fun e => e ▸ rfl⟩
  have ai : ∀ (u v : UInt8), al = #[u, v] ↔ p = u ∧ q = v := fun u v => by
    rw [← Array.toList_inj, hl]; simp
  refine ⟨p.toNat, q.toNat, hs, ?_, ?_, ?_, ?_, ?_, ?_, ?_, fun c => ?_⟩
  · unfold KBw.bInts; rw [hl]; rfl
  · unfold KBw.bInts; rw [hl]; rfl
  · exact hsg.1 p (by rw [hl]; exact .head _)
  · exact hsg.1 q (by rw [hl]; exact .tail _ (.head _))
  · exact fun z => hne (tn.mp z)
  · rw [ai, ← tn, ← tn]; show _ ↔ p.toNat = 13 ∧ q.toNat = 10; lia
  · rw [ai, ← tn, ← tn]; show _ ↔ p.toNat = 10 ∧ q.toNat = 13; lia
  · rw [hl, untrans_two c.2]
    split
    · rfl
    · split
      · rfl
      · rw [show c.1.toUInt8.toNat = c.1 % 256 from rfl]; lia
theorem pairs_ok {ns : List Int} (h1 : 0 < ns.length) (hn : ns.length ≤ 4) : ∀ al ∈ pairsB, PairOk (lwKs ns) (lwRow ns) ((lwVals ns).length + lwLack ns) (cnt1 ns 62) (cnt1 ns 63) (cnt2 ns [63, 62]) (cnt2 ns [62, 63]) (lcHead (lwVals ns) 62) (lcHead (lwVals ns) 63) al := fun al ha => by
  obtain ⟨x, y, F⟩ := pairF ha
  have ht := text_eq h1 hn ha (lv_low h1)
  rw [F.e0, F.e1] at ht
  have ht : lwText (lwKs ns) al = txtN x y (lwLack ns) (lwVals ns) := ht
  have hs : lwSent (lwKs ns) al = quoted (txtN x y (lwLack ns) (lwVals ns)) := by unfold lwSent; rw [ht]
  have hb := lv_bd h1 hn
  have hl := lv_len h1
  have h3 := lwLack_lt ns
  have hne : lwVals ns ≠ [] := fun z => by rw [z] at hl; simp at hl; lia
  have tl : (txtN x y (lwLack ns) (lwVals ns)).length = 4 * ns.length := by simp [txtN]; exact hl
  have hco : lwCost (cnt1 ns 62) (cnt1 ns 63) (cnt2 ns [63, 62]) (cnt2 ns [62, 63]) (lcHead (lwVals ns) 62) (lcHead (lwVals ns) 63) al = costN x y (lwVals ns) := by
    unfold lwCost
    rw [F.e0, F.e1]
  have asc : (quoted (txtN x y (lwLack ns) (lwVals ns))).all (· < 128) = true := by
    unfold quoted
    refine dotq_all _ rfl _ _ (crlf_all _ rfl rfl _ _ (Nat.le_refl _) ?_)
    rw [List.all_eq_true]
    intro c m
    have ex := signs_lt F.mx
    have ey := signs_lt F.my
    have : c < 128 := by
      rcases List.mem_append.mp m with m | m
      · obtain ⟨v, hv, e⟩ := List.mem_map.mp m
        have l := alph_lo (hb v hv).1 (hb v hv).2
        unfold symN at e
        rw [← e]
        split
        · exact Nat.lt_of_lt_of_le (by assumption) (by decide)
        · split <;> (first | exact Nat.lt_of_lt_of_le (by assumption) (by decide) | lia)
      · rw [List.mem_replicate] at m; lia
    simpa using this
  refine ⟨F.sz, ?_, ?_, ?_, ?_, ?_, ?_, ?_⟩
  · rw [F.e0, F.e1]; exact F.hc1
  · rw [F.e0, F.e1]; exact F.hc2
  · rw [ht, tl]; lia
  · rw [hs]
    have a1 := dotq_len true (crlf (txtN x y (lwLack ns) (lwVals ns)))
    have a2 := crlf_len (txtN x y (lwLack ns) (lwVals ns))
    unfold quoted
    lia
  · rw [hs]; exact asc
  · rw [hs, hco]
    exact quoted_len F.ne hb hne
  · rw [hco, hs]
    intro hback
    refine ⟨_, rfl, ?_⟩
    have e : KBw.bInts ((((quoted (txtN x y (lwLack ns) (lwVals ns))).toArray.map (·.toUInt8))).map fun c => (transT al.toList [43, 47]).getD c.toNat c) = (quoted (txtN x y (lwLack ns) (lwVals ns))).map (unT x y) := by
      simp only [KBw.bInts, Array.toList_map, List.map_map]
      refine List.map_congr_left fun c m => ?_
      have hc : c < 128 := by simpa using List.all_eq_true.mp asc c m
      have u := F.un ⟨c, by exact Nat.lt_of_lt_of_le (by assumption) (by decide)⟩
      have ec : c.toUInt8.toNat = c := by rw [show c.toUInt8.toNat = c % 256 from rfl]; lia
      simp only [Function.comp_apply, ec]
      have u : ((transT al.toList [43, 47]).getD c c.toUInt8).toNat = _ := u
      rw [u]
      unfold unT
      have hne := F.ne
      dsimp only
      by_cases c1 : c = y
      · subst c1; rw [if_pos rfl, if_neg (Ne.symm hne), if_pos rfl]; rfl
      · by_cases c2 : c = x
        · subst c2; rw [if_neg c1, if_pos rfl, if_pos rfl]; rfl
        · rw [if_neg c1, if_neg c2, if_neg c2, if_neg c1]
    rw [e]
    obtain ⟨q, l, p, d1, d2⟩ := dec_vals h1 hl h3 hb
    have r : a2bRun ((quoted (txtN x y (lwLack ns) (lwVals ns))).map (unT x y)) = a2bRun ((lwVals ns).map alph ++ List.replicate (lwLack ns) 61) := by
      unfold a2bRun
      rw [a2_filter, quoted_back F.ne hb hne hback, ← a2_filter, un_txt F.mx F.my F.ne hb]
    rw [r, d1]
    exact ⟨d2, rfl⟩

set_option maxHeartbeats 4000000
section
variable {C : Cx} {A : Around} {h h₀ h' : Heap} {env : Env}
theorem b_mod {u v : Value} {i j : Int} {Q : Value → Heap → Prop} (hu : pv u = .int i) (hv : pv v = .int j) (hj : j ≠ 0) (k : ∀ w, pv w = .int (i.fmod j) → Q w h) : Wp C A (binaryOp .Mod u v) Q h := fun t => by
  obtain ⟨_, rfl⟩ := pv_int hu; obtain ⟨_, rfl⟩ := pv_int hv
  exact mod_int' hj ⟨_, _, rfl, k _ rfl⟩
theorem b_addBytes {u v : Value} {b c : Array UInt8} {Q : Value → Heap → Prop} (hu : pv u = .bytes b) (hv : pv v = .bytes c) (hz : b.size + c.size ≤ 1000) (k : ∀ w, pv w = .bytes (b ++ c) → Q w h) : Wp C A (binaryOp .Add u v) Q h := fun t => by
  obtain ⟨_, rfl⟩ := pv_bytes hu; obtain ⟨_, rfl⟩ := pv_bytes hv
  exact KBa.add_K rfl rfl (by rw [KBw.ints_length, KBw.ints_length]; exact Nat.le_trans (by assumption) (by decide)) fun t' k' _ => ⟨_, _, rfl, k _ rfl⟩
end
noncomputable def preL (s : Array UInt8) (j : Nat) : List (Array UInt8) := ((signsB.take j).filter fun t => decide (s ≠ t)).map fun t => s ++ t
theorem preL_succ {s t : Array UInt8} {j : Nat} (h : signsB[j]? = some t) : preL s (j + 1) = if s = t then preL s j else preL s j ++ [s ++ t] := by
  unfold preL
  rw [List.take_add_one, h, List.filter_append, List.map_append]
  by_cases e : s = t
  · simp [e]
  · simp [e]
theorem preL_all : ∀ i, i < 5 → ∀ s, signsB[i]? = some s → pairsB.take (4 * i) ++ preL s 5 = pairsB.take (4 * (i + 1)) := by
  intro i hi s hs
  have : i = 0 ∨ i = 1 ∨ i = 2 ∨ i = 3 ∨ i = 4 := by lia
  rcases this with rfl | rfl | rfl | rfl | rfl <;> (cases hs; decide)
theorem preL_len (s : Array UInt8) (j : Nat) : (preL s j).length ≤ j := by
  unfold preL
  rw [List.length_map]
  exact Nat.le_trans (List.length_filter_le ..) (List.length_take_le ..)
inductive Pk {α : Type} (x : α) : List α → List α → Prop
  | here {l} : Pk x (x :: l) l
  | there {y l l'} : Pk x l l' → Pk x (y :: l) (y :: l')
inductive Picks {α : Type} : List α → List α → Prop
  | nil {l} : Picks l []
  | cons {x l l' r} : Pk x l l' → Picks l' r → Picks l (x :: r)
theorem Pk.perm {α : Type} {x : α} {l l' : List α} (p : Pk x l l') : l.Perm (x :: l') := by
  induction p with
  | here => exact .refl _
  | there _ ih => exact (ih.cons _).trans (.swap ..)
theorem Picks.perm {α : Type} {l r : List α} (p : Picks l r) : ∃ s, l.Perm (r ++ s) := by
  induction p with
  | nil => exact ⟨_, .refl _⟩
  | cons a _ ih =>
    obtain ⟨s, hs⟩ := ih
    exact ⟨s, a.perm.trans (hs.cons _)⟩
theorem St.pick {h h₀ : Heap} {env : Env} {l : List (Str × Option PV)} {cs cs' : List (Addr × AO)} (Z : St env h₀ l cs h) (p : Picks cs cs') : St env h₀ l cs' h := by
  obtain ⟨s, hs⟩ := p.perm
  exact (Z.perm hs).sub (List.sublist_append_left ..)
theorem signs_sz {i : Nat} {s : Array UInt8} (h : signsB[i]? = some s) : s.size = 1 := by
  have : ∀ s ∈ signsB, s.size = 1 := by decide
  exact this s (List.mem_of_getElem? h)
theorem law_t2 {C : Cx} {A : Around} {h h₀ : Heap} {P : Params} {m : Nat} {L fa nr : Addr} {ns : List Int} {q1 : Option PV} (hR : Rm (m + 8) A) (G : Gd (hd.heap_39 P) h₀) (X : Lm h₀ 234 232) (hn1 : 0 < ns.length) (hn2 : ns.length ≤ 4)
    (Z : St (lawEnv P L fa) h₀ [("script", q1), ("numbers", some (.ref nr)), ("lack", none), ("values", none), ("row", none), ("counts", none), ("pairs", none), ("pair", none), ("sent", none), ("more", none), ("back", none), ("places", none), ("rising", none), ("falling", none), ("count", none)] ((nr, .list (ns.map PV.int)) :: (L + 3, celO none) :: (L + 2, celO none) :: (L + 1, celO none) :: (232, .raw (tabObj #[])) :: []) h) :
    Wp C A (execs ((lawBody P).drop 1) (lawEnv P L fa)) (lawPost h₀) h := by
  have hb := fn_body (K := hd.heap_39 P) (f := 235) (by k_is) (by exact rfl)
  unfold lawBody
  rw [hb]
  simp only [stmtsOf_s, List.drop_succ_cons, List.drop_zero]
  have hl3 := lwLack_lt ns
  have hvl := lv_len hn1
  have G1 := G.keeps Z.keep
  refine x_assign' (w_BinOp2 (w_call_bi (gl_boot G1 (by kernel_rfl) boot_sum (by decide +kernel) (by kernel_rfl) (by kernel_rfl) (by kernel_rfl) (by kernel_rfl)) (w_args_cons (Pe.useR (by tm_at "pe") (w_args_nil ?_)))))
  refine w_sum hR.h (Z.get .here) fun w h₁ hw kp => ?_
  have Z₁ := Z.keeps kp
  refine Pe.use (p := .int 3) (by tm_at "pe") fun v3 hv3 => b_mod hw hv3 (by decide) fun x hx => ?_
  rw [← lwLack_eq] at hx
  refine w_store Z₁ hx (by repeat' with_reducible constructor) fun h₂ Z₂ => ?_
  clear Z Z₁ kp G1
  as_aux_lemma =>
  have G2 := G.keeps Z₂.keep
  refine x_assign' (w_call (gl_top (v := .ref 211) G2 (by kernel_rfl) (by kernel_rfl) (by kernel_rfl) (by kernel_rfl)) (G2.fn (f := 211) (by kernel_rfl)) (ps_cons (p := .ref nr) (by tm_at "pe") (ps_cons (p := .int (lwLack ns)) (by tm_at "pe") ps_nil)) fun us hus => ?_)
  refine law_values_spec (n := m) (hR.less (by lia)) G2 hus (Z₂.get .here) hn1 (by exact Nat.le_trans (by assumption) (by decide)) hl3 fun vr h₃ kp ov fr => ?_
  have Z₃ := Z₂.adopt (New.one kp ov fr)
  refine w_store (p := .ref vr) Z₃ rfl (by repeat' with_reducible constructor) fun h₄ Z₄ => ?_
  replace Z₄ : St (lawEnv P L fa) h₀ [("script", q1), ("numbers", some (.ref nr)), ("lack", some (.int (lwLack ns))), ("values", some (.ref vr)), ("row", none), ("counts", none), ("pairs", none), ("pair", none), ("sent", none), ("more", none), ("back", none), ("places", none), ("rising", none), ("falling", none), ("count", none)] ((vr, .list ((lwVals ns).map PV.int)) :: (nr, .list (ns.map PV.int)) :: (L + 3, celO none) :: (L + 2, celO none) :: (L + 1, celO none) :: (232, .raw (tabObj #[])) :: []) h₄ := Z₄
  clear Z₂ Z₃ kp ov fr G2
  as_aux_lemma =>
  have G4 := G.keeps Z₄.keep
  refine x_assign' (w_call (gl_top (v := .ref 218) G4 (by kernel_rfl) (by kernel_rfl) (by kernel_rfl) (by kernel_rfl)) (G4.fn (f := 218) (by kernel_rfl)) (ps_cons (p := .ref vr) (by tm_at "pe") (ps_cons (p := .int (lwLack ns)) (by tm_at "pe") ps_nil)) fun us hus => ?_)
  refine law_octets_spec (n := m) (m := ns.length) (hR.less (by lia)) G4 hus (Z₄.get .here) (lv_bd hn1 hn2) hvl (by exact Nat.le_trans (by assumption) (by decide)) hl3 fun w h₅ kp hw => ?_
  refine w_store (p := .bytes (lwRow ns)) (Z₄.keeps kp) hw (by repeat' with_reducible constructor) fun h₆ Z₆ => ?_
  clear Z₄ kp G4
  as_aux_lemma =>
  have G6 := G.keeps Z₆.keep
  refine x_assign' (w_call (gl_top (v := .ref 223) G6 (by kernel_rfl) (by kernel_rfl) (by kernel_rfl) (by kernel_rfl)) (G6.fn (f := 223) (by kernel_rfl)) (ps_cons (p := .ref vr) (by tm_at "pe") ps_nil) fun us hus => ?_)
  refine law_counts_spec (n := m) (hR.less (by lia)) G6 hus (Z₆.get .here) (by lia) (by lia) fun ct a1 a2 a3 h₇ N => ?_
  have Z₇ := Z₆.adopt N
  refine w_store (p := .ref ct) Z₇ rfl (by repeat' with_reducible constructor) fun h₈ Z₈ => ?_
  replace Z₈ : St (lawEnv P L fa) h₀ [("script", q1), ("numbers", some (.ref nr)), ("lack", some (.int (lwLack ns))), ("values", some (.ref vr)), ("row", some (.bytes (lwRow ns))), ("counts", some (.ref ct)), ("pairs", none), ("pair", none), ("sent", none), ("more", none), ("back", none), ("places", none), ("rising", none), ("falling", none), ("count", none)] ((ct, .tup [.ref a1, .ref a2, .ref a3]) :: (a2, .list [.int (cnt2 ns [63, 62]), .int (cnt2 ns [62, 63])]) :: (a1, .list [.int (cnt1 ns 62), .int (cnt1 ns 63)]) :: (a3, .list [.int (lcHead (lwVals ns) 62), .int (lcHead (lwVals ns) 63)]) :: (vr, .list ((lwVals ns).map PV.int)) :: (nr, .list (ns.map PV.int)) :: (L + 3, celO none) :: (L + 2, celO none) :: (L + 1, celO none) :: (232, .raw (tabObj #[])) :: []) h₈ := Z₈
  clear Z₆ Z₇ N G6
  as_aux_lemma =>
  refine x_assign' (w_tupP Z₈ (ps_cons e_bytes (ps_cons e_bytes (ps_cons e_bytes (ps_cons e_bytes (ps_cons e_bytes ps_nil))))) fun sg h₉ Z₉ => ?_)
  refine w_storeC (p := .ref sg) (c := L + 1) Z₉ rfl (by kernel_rfl) (by kernel_rfl) (by repeat' with_reducible constructor) (by repeat' with_reducible constructor) fun h₁₀ Z₁₀ => ?_
  replace Z₁₀ : St (lawEnv P L fa) h₀ [("script", q1), ("numbers", some (.ref nr)), ("lack", some (.int (lwLack ns))), ("values", some (.ref vr)), ("row", some (.bytes (lwRow ns))), ("counts", some (.ref ct)), ("pairs", none), ("pair", none), ("sent", none), ("more", none), ("back", none), ("places", none), ("rising", none), ("falling", none), ("count", none)] ((sg, .tup (signsB.map PV.bytes)) :: (ct, .tup [.ref a1, .ref a2, .ref a3]) :: (a2, .list [.int (cnt2 ns [63, 62]), .int (cnt2 ns [62, 63])]) :: (a1, .list [.int (cnt1 ns 62), .int (cnt1 ns 63)]) :: (a3, .list [.int (lcHead (lwVals ns) 62), .int (lcHead (lwVals ns) 63)]) :: (vr, .list ((lwVals ns).map PV.int)) :: (nr, .list (ns.map PV.int)) :: (L + 3, celO none) :: (L + 2, celO none) :: (L + 1, celO (some (.ref sg))) :: (232, .raw (tabObj #[])) :: []) h₁₀ := Z₁₀
  clear Z₈ Z₉
  as_aux_lemma =>
  refine x_assignComp (h₀ := h₀) (l := [("script", q1), ("numbers", some (.ref nr)), ("lack", some (.int (lwLack ns))), ("values", some (.ref vr)), ("row", some (.bytes (lwRow ns))), ("counts", some (.ref ct)), ("pairs", none), ("pair", none), ("sent", none), ("more", none), ("back", none), ("places", none), ("rising", none), ("falling", none), ("count", none)]) (cl := [("signs", L + 1)]) (ks := ["first", "second"]) (by kernel_rfl) rfl (by decide +kernel) (by decide +kernel) (fun _ => LocK.of (by kernel_rfl) (by kernel_rfl) (by decide +kernel)) ?_ (by kernel_rfl)
  refine Pe.useR (e_cell (c := L + 1) (by kernel_rfl) (by kernel_rfl) (by kernel_rfl) (Z₁₀.get (by repeat' with_reducible constructor))) ?_
  refine w_iter_tup Z₁₀ (Z₁₀.get .here) fun it h₁₁ Z₁₁ => ⟨_, Z₁₁, fun acc L' oL h₁₂ Z₁₂ => ?_⟩
  have Zq : St _ h₀ [("first", none), ("second", none)] ((it, tit sg 0) :: ((lawEnv P L fa).locals, .raw oL) :: (acc, .list ((pairsB.take (4 * 0)).map PV.bytes)) :: (sg, .tup (signsB.map PV.bytes)) :: (ct, .tup [.ref a1, .ref a2, .ref a3]) :: (a2, .list [.int (cnt2 ns [63, 62]), .int (cnt2 ns [62, 63])]) :: (a1, .list [.int (cnt1 ns 62), .int (cnt1 ns 63)]) :: (a3, .list [.int (lcHead (lwVals ns) 62), .int (lcHead (lwVals ns) 63)]) :: (vr, .list ((lwVals ns).map PV.int)) :: (nr, .list (ns.map PV.int)) :: (L + 3, celO none) :: (L + 2, celO none) :: (L + 1, celO (some (.ref sg))) :: (232, .raw (tabObj #[])) :: []) h₁₂ := Z₁₂.perm ((List.perm_append_comm (l₁ := [_, _]) (l₂ := [_])).append_right _)
  clear Z₁₀ Z₁₁ Z₁₂
  as_aux_lemma =>
  refine cp_compStart (cp_comp0N 5 (fun i h' => St _ h₀ [("first", none), ("second", none)] ((it, tit sg i) :: ((lawEnv P L fa).locals, .raw oL) :: (acc, .list ((pairsB.take (4 * i)).map PV.bytes)) :: (sg, .tup (signsB.map PV.bytes)) :: (ct, .tup [.ref a1, .ref a2, .ref a3]) :: (a2, .list [.int (cnt2 ns [63, 62]), .int (cnt2 ns [62, 63])]) :: (a1, .list [.int (cnt1 ns 62), .int (cnt1 ns 63)]) :: (a3, .list [.int (lcHead (lwVals ns) 62), .int (lcHead (lwVals ns) 63)]) :: (vr, .list ((lwVals ns).map PV.int)) :: (nr, .list (ns.map PV.int)) :: (L + 3, celO none) :: (L + 2, celO none) :: (L + 1, celO (some (.ref sg))) :: (232, .raw (tabObj #[])) :: []) h') ?_ ?_ (by intro _; rfl) 0 h₁₂ (Nat.zero_le _) Zq) (w_iter_tit (Zq.get .here) ⟨rfl, rfl⟩)
  · rintro i h₁₃ hi Z J kJ
    obtain ⟨s, hs⟩ : ∃ s, signsB[i]? = some s := ⟨signsB[i]'(by simpa [signsB] using hi), List.getElem?_eq_getElem _⟩
    refine next_tup Z (by repeat' with_reducible constructor) (by repeat' with_reducible constructor) (Z.get (by repeat' with_reducible constructor)) (p := .bytes s) (by rw [List.getElem?_map, hs]; rfl) fun v h₁₄ hv Z₁₄ => ⟨v, rfl, Wp.pure (w_assignName (w_store Z₁₄ hv (by repeat' with_reducible constructor) fun h₁₅ Z₁₅ => w_tests0 ⟨rfl, ?_⟩))⟩
    refine Pe.useR (e_cell (c := L + 1) (by kernel_rfl) (by kernel_rfl) (by kernel_rfl) (Z₁₅.get (by repeat' with_reducible constructor))) ?_
    refine w_iter_tup Z₁₅ (Z₁₅.get (by repeat' with_reducible constructor)) fun it2 h₁₆ Z₁₆ => ?_
    clear Z Z₁₄ Z₁₅ Zq
    as_aux_lemma =>
    rw [show pairsB.take (4 * i) = pairsB.take (4 * i) ++ preL s 0 from (List.append_nil _).symm] at Z₁₆
    refine cp_compStart1 (Cp.mono (cp_comp1N 5 (fun j h' => St _ h₀ [("first", some (.bytes s)), ("second", none)] ((it2, tit sg j) :: (it, tit sg (i + 1)) :: ((lawEnv P L fa).locals, .raw oL) :: (acc, .list ((pairsB.take (4 * i) ++ preL s j).map PV.bytes)) :: (sg, .tup (signsB.map PV.bytes)) :: (ct, .tup [.ref a1, .ref a2, .ref a3]) :: (a2, .list [.int (cnt2 ns [63, 62]), .int (cnt2 ns [62, 63])]) :: (a1, .list [.int (cnt1 ns 62), .int (cnt1 ns 63)]) :: (a3, .list [.int (lcHead (lwVals ns) 62), .int (lcHead (lwVals ns) 63)]) :: (vr, .list ((lwVals ns).map PV.int)) :: (nr, .list (ns.map PV.int)) :: (L + 3, celO none) :: (L + 2, celO none) :: (L + 1, celO (some (.ref sg))) :: (232, .raw (tabObj #[])) :: []) h') ?_ ?_ 0 h₁₆ (Nat.zero_le _) Z₁₆) fun f h' q => q.2) (w_iter_tit (Z₁₆.get .here) ⟨rfl, rfl⟩)
    · rintro j h₁₇ hj Z J2 kJ2
      obtain ⟨t, ht⟩ : ∃ t, signsB[j]? = some t := ⟨signsB[j]'(by simpa [signsB] using hj), List.getElem?_eq_getElem _⟩
      refine next_tup Z (by repeat' with_reducible constructor) (by repeat' with_reducible constructor) (Z.get (by repeat' with_reducible constructor)) (p := .bytes t) (by rw [List.getElem?_map, ht]; rfl) fun v h₁₈ hv Z₁₈ => ⟨v, rfl, Wp.pure (w_assignName (w_store Z₁₈ hv (by repeat' with_reducible constructor) fun h₁₉ Z₁₉ => w_tests1 (w_testPt (b := !decide (s = t)) (t_cmp (by tm_at "pe") (by tm_at "pe") c_ne_bytes rfl) ?_)))⟩
      by_cases e : s = t
      · rw [decide_eq_true e, if_neg (by simp)]
        refine kJ2 ?_
        rw [preL_succ ht, if_pos e]
        exact Z₁₉.wk (by repeat' first | with_reducible constructor | refine' Wk.keep ?_)
      · rw [decide_eq_false e, if_pos (by rfl)]
        refine w_BinOp2 (Pe.use (p := .bytes s) (by tm_at "pe") fun v1 hv1 => Pe.use (p := .bytes t) (by tm_at "pe") fun v2 hv2 => b_addBytes hv1 hv2 (by rw [signs_sz hs, signs_sz ht]; decide) fun w hw => ?_)
        refine w_append Z₁₉ hw (by repeat' with_reducible constructor) (by repeat' with_reducible constructor) (by have := preL_len s j; rw [List.length_map, List.length_append, List.length_take]; first | exact szm (by lia) | exact sz (by lia) | (simp [sizeLine]; lia)) fun h₂₀ Z₂₀ => kJ2 ?_
        rw [preL_succ ht, if_neg e, ← List.append_assoc, List.map_append]
        exact Z₂₀.wk (by repeat' first | with_reducible constructor | refine' Wk.keep ?_)
    · rintro h₁₇ Z
      refine next_tup_end hR.h Z (Z.get (by repeat' with_reducible constructor)) (by decide) fun h₁₈ Z₁₈ => ⟨rfl, kJ ?_⟩
      rw [preL_all i hi s hs] at Z₁₈
      exact Z₁₈.wk (by repeat' first | with_reducible constructor | refine' Wk.keep ?_)
  · rintro h₁₃ Z
    refine next_tup_end hR.h Z (Z.get (by repeat' with_reducible constructor)) (by decide) fun h₁₄ Z₁₄ => ⟨rfl, _, _, _, _, Z₁₄, (by repeat' with_reducible constructor), fun h₁₅ Z₁₅ => ?_⟩
    rw [show pairsB.take (4 * 5) = pairsB from rfl] at Z₁₅
    refine x_assign' (w_List (w_args_nil (w_newList Z₁₅ (by decide) fun lr h₁₆ Z₁₆ => w_storeC (p := .ref lr) (c := L + 3) Z₁₆ rfl (by kernel_rfl) (by kernel_rfl) (by repeat' with_reducible constructor) (by repeat' with_reducible constructor) fun h₁₇ Z₁₇ => ?_)))
    rw [List.map_nil] at Z₁₇
    refine x_assign' (w_List (w_args_nil (w_newList Z₁₇ (by decide) fun cr h₁₈ Z₁₈ => w_storeC (p := .ref cr) (c := L + 2) Z₁₈ rfl (by kernel_rfl) (by kernel_rfl) (by repeat' with_reducible constructor) (by repeat' with_reducible constructor) fun h₁₉ Z₁₉ => ?_)))
    rw [List.map_nil] at Z₁₉
    have := law_t3 (C := C) (P := P) (m := m) (cs := []) (pr := acc) (cr := cr) (lr := lr) (vr := vr) (ct := ct) (a1 := a1) (a2 := a2) (a3 := a3) (prs := pairsB) (ks := lwKs ns) (row := lwRow ns) (vals := lwVals ns) (lack := lwLack ns) hR G X rfl (KBa.ints_make (lwKs_bd hn1 hn2)) (by unfold lwKs; rw [List.length_take, octAll_len]; lia) (by lia) (pairs_ok hn1 hn2) (Z₁₉.pick (by repeat' with_reducible constructor))
    unfold lawBody at this
    rw [hb] at this
    simp only [stmtsOf_s, List.drop_succ_cons, List.drop_zero] at this
    exact this

set_option maxHeartbeats 4000000
section
variable {C : Cx} {A : Around} {h h₀ h' : Heap} {env : Env} {l l' : List (Str × Option PV)} {cs cs' : List (Addr × AO)} {K : Frag}
theorem w_sliceTailI {e : Expr} {a : Addr} {ps : List PV} {elo ehi est : Option Expr} {lo hi st : Option Int} {p : Pos} {Q : Value → Heap → Prop} (Z : St env h₀ l cs h) (o : ∃ arr : Array Value, h.IsList a arr ∧ arr.toList.map pv = ps) (p1 : Pp C A env h elo lo) (p2 : Pp C A env h ehi hi) (p3 : Pp C A env h est st) (h0 : st ≠ some 0) (hz : ps.length ≤ sizeLine)
    (k : ∀ r h', St env h₀ l ((r, .list (pickL ps lo hi st)) :: cs) h' → Q (.ref r) h')
    (hs : ∀ s, ∃ ops, subscripted (.Slice elo ehi est p) false (.ref a) (.ref s) = operate ops (getItem (.ref a) (.ref s)) := by intro _; exact ⟨_, by with_unfolding_all rfl⟩) :
    Wp C A (eval (.Slice elo ehi est p) env) (fun kv h2 => Wp C A (subscriptTail e (.Slice elo ehi est p) (.ref a) kv) Q h2) h := fun t => by
  refine wpAny_Slice ((p1.use fun vl hl => ?_ : Wp C A (evalPart elo env) (fun vl h1 => ∀ t, wpAny C.M A (evalPart ehi env) (fun vu s2 => wpAny C.M A (evalPart est env) (fun vs s3 => ∃ h' t', ({ s3 with heap := s3.heap.push { cls := .type "slice", data := .fields #[vl, vu, vs] } } : Shared) = C.st h' t' ∧ Wp C A (subscriptTail e (.Slice elo ehi est p) (.ref a) (.ref s3.heap.objs.size)) Q h') (fun _ _ => False) s2) (fun _ _ => False) (C.st h1 t)) h).seq t fun vl h1 t1 q1 => q1 t1)
  intro t
  refine (p2.use fun vu hu => ?_ : Wp C A (evalPart ehi env) (fun vu h1 => ∀ t, wpAny C.M A (evalPart est env) (fun vs s3 => ∃ h' t', ({ s3 with heap := s3.heap.push { cls := .type "slice", data := .fields #[vl, vu, vs] } } : Shared) = C.st h' t' ∧ Wp C A (subscriptTail e (.Slice elo ehi est p) (.ref a) (.ref s3.heap.objs.size)) Q h') (fun _ _ => False) (C.st h1 t)) h).seq t fun vu h1 t1 q1 => q1 t1
  intro t
  refine (p3.use fun vs hv => ?_ : Wp C A (evalPart est env) (fun vs h1 => ∀ t, ∃ h' t', ({ C.st h1 t with heap := h1.push { cls := .type "slice", data := .fields #[vl, vu, vs] } } : Shared) = C.st h' t' ∧ Wp C A (subscriptTail e (.Slice elo ehi est p) (.ref a) (.ref h1.objs.size)) Q h') h).seq t fun vs h1 t1 q1 => q1 t1
  intro t
  refine ⟨_, _, rfl, fun t => ?_⟩
  obtain ⟨arr, il, ev⟩ := o
  have hsz : arr.size = ps.length := by rw [← ev, List.length_map]; simp
  obtain ⟨ops, hs⟩ := hs h.objs.size
  refine tail_any (T := "list") ?_ slot_list_getitem.lookup (wpAny_getItem_list_slice (il.push _) (Heap.IsSliceOf.new ..) hl hu hv h0 ?_ (by rw [hsz]; exact hz)) hs
  · exact Heap.IsList.typeIs (s := C.st (h.push _) t) (il.push _)
  · refine ⟨_, _, rfl, k _ _ ((Z.push (x := .raw _) rfl).push (x := .list (pickL ps lo hi st)) ⟨_, _, rfl, pick_pv ev lo hi st⟩).swap.drop⟩
end
theorem law_t1 {C : Cx} {A : Around} {h h₀ : Heap} {P : Params} {m : Nat} {L fa a : Addr} {script : List Int} (hR : Rm (m + 8) A) (G : Gd (hd.heap_39 P) h₀) (X : Lm h₀ 234 232) (o : ∃ arr : Array Value, h₀.IsList a arr ∧ arr.toList.map pv = script.map PV.int) (hl : script.length ≤ 63)
    (Z : St (lawEnv P L fa) h₀ [("script", some (.ref a)), ("numbers", none), ("lack", none), ("values", none), ("row", none), ("counts", none), ("pairs", none), ("pair", none), ("sent", none), ("more", none), ("back", none), ("places", none), ("rising", none), ("falling", none), ("count", none)] ((L + 3, celO none) :: (L + 2, celO none) :: (L + 1, celO none) :: (232, .raw (tabObj #[])) :: []) h) :
    Wp C A (execs (lawBody P) (lawEnv P L fa)) (lawPost h₀) h := by
  have hb := fn_body (K := hd.heap_39 P) (f := 235) (by k_is) (by exact rfl)
  have t2 : ∀ {h : Heap} {nr : Addr} {ns : List Int}, 0 < ns.length → ns.length ≤ 4 → St (lawEnv P L fa) h₀ [("script", some (.ref a)), ("numbers", some (.ref nr)), ("lack", none), ("values", none), ("row", none), ("counts", none), ("pairs", none), ("pair", none), ("sent", none), ("more", none), ("back", none), ("places", none), ("rising", none), ("falling", none), ("count", none)] ((nr, .list (ns.map PV.int)) :: (L + 3, celO none) :: (L + 2, celO none) :: (L + 1, celO none) :: (232, .raw (tabObj #[])) :: []) h → Wp C A (execs ((lawBody P).drop 1) (lawEnv P L fa)) (lawPost h₀) h := fun h1 h2 Z => law_t2 (m := m) hR G X h1 h2 Z
  unfold lawBody at *
  rw [hb] at t2 ⊢
  simp only [stmtsOf_s, List.drop_succ_cons, List.drop_zero] at t2 ⊢
  refine x_assign' (w_or (w_subscript (Pe.useR (by tm_at "pe") ?_)))
  refine w_sliceTailI (lo := none) (hi := some 4) (st := none) Z (by obtain ⟨arr, ⟨ob, eo, r⟩, e⟩ := o; exact ⟨arr, ⟨ob, Z.keep _ _ eo, r⟩, e⟩) trivial (show Pe _ _ _ _ _ _ from (by tm_at "pe")) trivial (by decide) (by first | exact szm (by exact Nat.le_trans (by assumption) (by decide)) | exact sz (by lia) | (simp [sizeLine]; lia)) fun nr h₁ Z₁ => ?_
  rw [show pickL (script.map PV.int) none (some 4) none = (script.take 4).map PV.int from (pick_upto _ 4).trans (List.map_take ..).symm] at Z₁
  refine w_truthyList (Z₁.get .here) (by simp; lia) ?_
  by_cases e : script = []
  · subst e
    rw [if_neg (by simp)]
    refine w_listP Z₁ (ps_cons (by tm_at "pe") (ps_cons (by tm_at "pe") ps_nil)) fun nr2 h₂ Z₂ => w_store (p := .ref nr2) Z₂ rfl (by repeat' with_reducible constructor) fun h₃ Z₃ => ?_
    exact t2 (ns := [3, 58]) (by decide) (by decide) (Z₃.sub ((List.Sublist.refl _).cons _ |>.cons_cons _))
  · rw [if_pos (by cases script with | nil => exact absurd rfl e | cons => rfl)]
    refine w_store (p := .ref nr) Z₁ rfl (by repeat' with_reducible constructor) fun h₂ Z₂ => ?_
    refine t2 (ns := script.take 4) ?_ (by rw [List.length_take]; lia) Z₂
    rw [List.length_take]
    have : 0 < script.length := by cases script with
      | nil => exact absurd rfl e
      | cons => simp
    lia

end Mine
set_option maxHeartbeats 8000000
namespace Mine
open PySem PySem.W PyProof.Rows
theorem law_join {w : World} {s₁ : Shared} {h₁ : Heap} {tk : Nat} {fa a : Addr} {vs : List Value} {script : List Int} {o1 o2 o3 : Obj} {m mg mb : Str → Option Value} {p : Program} {loose : List Str} {mean : ExcName → Option Value}
    (X' : (hd.heap_39 w.params).In (ghostOf s₁.heap [(234, 232)])) (T' : Top p loose mean mg mb (ghostOf s₁.heap [(234, 232)])) (F' : Fr (ghostOf s₁.heap [(234, 232)]) s₁.heap.objs.size h₁ m)
    (N' : News (ghostOf s₁.heap [(234, 232)]) s₁.heap.objs.size h₁ [(s₁.heap.objs.size + 1 + 1 + 1, o3), (s₁.heap.objs.size + 1 + 1, o2), (s₁.heap.objs.size + 1, o1), (232, tabObj #[])])
    (d3 : o3.data = .cell none) (d2 : o2.data = .cell none) (d1 : o1.data = .cell none) (codeHd : CodeHd (ghostOf s₁.heap [(234, 232)]) 234 232) (lifted : (ghostOf s₁.heap [(234, 232)]).IsList a vs.toArray) (hI : IntsAre vs script) (hl : ¬ (63 : Int) < (script.length : Int)) (l0 : 232 < s₁.heap.objs.size)
    (hm : m (Str.ofString "script") = some (.ref a)) (C : Cx) (hC : C = ⟨Mine.rw2.row.prog, w, s₁.gens, s₁.drawn, s₁.os⟩) :
    wpAny (model Mine.rw2.row.prog w) (callerA.deeper (lawEnv w.params s₁.heap.objs.size fa)) (execs (lawBody w.params) (lawEnv w.params s₁.heap.objs.size fa)) (fun f s' => ∃ h' t', s' = C.st h' t' ∧ lawPost (ghostOf s₁.heap [(234, 232)]) f h') (fun _ _ => False) ⟨h₁, s₁.gens, s₁.drawn, tk, s₁.os⟩ := by
  subst hC
  have hL0 : ∀ b, s₁.heap.objs.size ≤ b → (ghostOf s₁.heap [(234, 232)]).get? b = none := fun b hb => Heap.get?_none_of_le (Nat.le_trans F'.above hb)
  have e3 := N' _ (.head _)
  have e2 := N' _ (.tail _ (.head _))
  have e1 := N' _ (.tail _ (.tail _ (.head _)))
  have e0 := N' _ (.tail _ (.tail _ (.tail _ (.head _))))
  have hv : vs.map pv = script.map PV.int := by
    clear lifted hl
    as_aux_lemma =>
    induction hI with
    | nil => rfl
    | cons n t _ ih => exact congrArg (PV.int n :: ·) ih
  have G : Gd (hd.heap_39 w.params) (ghostOf s₁.heap [(234, 232)]) := ⟨X', ⟨mg, mb, T'.g, T'.b, T'.builtins⟩, T'.nolimit⟩
  have X : Lm (ghostOf s₁.heap [(234, 232)]) 234 232 := by
    obtain ⟨bm, ob, b1, b2, b3, b4, b5, b6⟩ := T'.bmain
    have hbG : bm ≠ mainGlobals := fun q => by
      obtain ⟨o, es, ep, e, hd, _⟩ := T'.g
      rw [q, e] at b3; cases b3; rw [hd] at b6; cases b6
    exact ⟨codeHd, mg, bm, ob, T'.g, b1, b2, hbG, b3, b4, b5, b6⟩
  have Z : St (lawEnv w.params s₁.heap.objs.size fa) (ghostOf s₁.heap [(234, 232)]) [("script", some (.ref a)), ("numbers", none), ("lack", none), ("values", none), ("row", none), ("counts", none), ("pairs", none), ("pair", none), ("sent", none), ("more", none), ("back", none), ("places", none), ("rising", none), ("falling", none), ("count", none)]
      ((s₁.heap.objs.size + 3, celO none) :: (s₁.heap.objs.size + 2, celO none) :: (s₁.heap.objs.size + 1, celO none) :: (232, .raw (tabObj #[])) :: []) h₁ := by
    refine ⟨⟨m, F'.ns, fun x p hx => ?_⟩, LocK.of (by kernel_rfl) (by kernel_rfl) (by simp only [List.map_cons, List.map_nil]; decide +kernel), F'.keep, hL0 _ (Nat.le_refl _), fun q hq => ?_, fun q hq => ?_, ?_⟩
    · rcases List.mem_cons.mp hx with e | hx
      · cases e; exact ⟨_, hm, rfl⟩
      · exfalso
        simp at hx
    · simp only [List.mem_cons, List.not_mem_nil, or_false] at hq
      rcases hq with rfl | rfl | rfl | rfl
      · exact ⟨o3, e3.1, none, d3, rfl⟩
      · exact ⟨o2, e2.1, none, d2, rfl⟩
      · exact ⟨o1, e1.1, none, d1, rfl⟩
      · exact ⟨_, e0.1, rfl⟩
    · simp only [List.mem_cons, List.not_mem_nil, or_false] at hq
      rcases hq with rfl | rfl | rfl | rfl
      · exact e3.2.2
      · exact e2.2.2
      · exact e1.2.2
      · exact e0.2.2
    · simp only [List.map_cons, List.map_nil, List.nodup_cons, List.mem_cons, List.not_mem_nil, or_false, not_or, not_false_eq_true, List.nodup_nil, and_true]
      show (s₁.heap.objs.size ≠ s₁.heap.objs.size + 3 ∧ s₁.heap.objs.size ≠ s₁.heap.objs.size + 2 ∧ s₁.heap.objs.size ≠ s₁.heap.objs.size + 1 ∧ s₁.heap.objs.size ≠ 232) ∧ (s₁.heap.objs.size + 3 ≠ s₁.heap.objs.size + 2 ∧ s₁.heap.objs.size + 3 ≠ s₁.heap.objs.size + 1 ∧ s₁.heap.objs.size + 3 ≠ 232) ∧ (s₁.heap.objs.size + 2 ≠ s₁.heap.objs.size + 1 ∧ s₁.heap.objs.size + 2 ≠ 232) ∧ s₁.heap.objs.size + 1 ≠ 232
      lia
  have oS : ∃ arr : Array Value, (ghostOf s₁.heap [(234, 232)]).IsList a arr ∧ arr.toList.map pv = script.map PV.int := ⟨_, lifted, by simpa using hv⟩
  exact law_t1 (C := ⟨Mine.rw2.row.prog, w, s₁.gens, s₁.drawn, s₁.os⟩) (m := 20) (Rm.deeper ⟨by decide, by decide, rfl⟩ _) G X oS (by lia) Z tk
end Mine
open PySem PySem.W PyProof.Rows Mine in
theorem Mine.law_holds : Mine.rw2.Holds := by
  refine hd ?_
  k_go0
  refine wpAny_mono (law_join (by assumption) (by assumption) (by assumption) (by assumption) ?_ ?_ ?_ (by assumption) (by assumption) (by assumption) (by assumption) (by assumption) ?_ _ rfl) (fun f s' q => ?_) fun _ _ z => z.elim
  · refine Eq.trans (by assumption) ?_
    kernel_rfl
  · refine Eq.trans (by assumption) ?_
    kernel_rfl
  · refine Eq.trans (by assumption) ?_
    kernel_rfl
  · kernel_rfl
  · obtain ⟨h', t', rfl, hf, kp, ps, hps⟩ := q
    subst hf
    refine ⟨⟨.inl ⟨.bool true, .bool true, [], rfl, ?_, ?_, ?_, ?_⟩, kp, rfl, by assumption⟩, ⟨ps, hps⟩, trivial⟩
    · intro cls; kernel_rfl
    · exact .bool _
    · kernel_rfl
    · exact fun _ => ⟨List.nodup_nil, fun a m => nomatch m⟩

theorem PySem.Challenge.cw_qw0037_02_holds : PySem.Challenge.rw_qw0037_02.Holds := by
  rw [Mine.rw_eq]; exact Mine.law_holds
